/-
  What is proved here: what setting a point to bytes returns.
  Conditions: those of each theorem.
-/
import Derived.Test.YtmepgkcijeobkaaProg
import Derived.Test.YtmepgkcijeobkaaEleElo
import Derived.Test.YtmepgkcijeobkaaSqrRoot
import Derived.Test.YtmepgkcijeobkaaHpt
import Derived.Test.YtmepgkcijeobkaaBysCod
import Derived.WalkKit
import Derived.WalkSpells
import Derived.Outline
import Derived.Handy
import Derived.ProofKit
import Derived.Deep.QuietTactic
import Derived.BigQuiet
import Derived.Lib.Hide
import Derived.OpenShut
namespace Go.Proofs.Ytmepgkcijeobkaa
open Go Go.RowKit Ecp
set_option linter.unusedSimpArgs false
set_option linter.unusedVariables false

set_option maxHeartbeats 1000000 in
set_option maxRecDepth 100000 in
theorem SB_far (q c k : Nat) (w : World) (hq : q < w.heap.size) (hc : c < w.heap.size) (hf : Free w q 0 12) (h0 : w.cell? ⟨c, 0, none⟩ = some (.int .u8 0)) : Calls Try.prog 58 #[.pointer (some ⟨q, 0, none⟩), .slice (some ⟨c, 0, none⟩) 1 k] w fun e w' => e = .returned (.tuple #[.pointer (some ⟨q, 0, none⟩), .nilIface]) ∧ Turned q 0 12 w w' ∧ Hp w' q 0 .far := by
  have H := Lib.hid (And.intro hq hf)
  clear hq hc hf
  go_enter Try.func58, Try.ntmps58
  go_wp2_with (first | (go_at_call 66; go_must (refine (NewHp w).mono ?_); rintro e w1 ⟨rfl, hl, hE, hfr, hP⟩; have H1 := Lib.hid (And.intro hl (And.intro hE hP)); clear hl hE hfr hP) | (go_at_call 74; go_must (refine (SetHp q 0 w.heap.size 0 .far w1 (H1.out.2.1.lt H.out.1) H1.out.1 (H1.out.2.1.free H.out.1 H.out.2) H1.out.2.2 (apart_ne (Nat.ne_of_gt H.out.1))).mono ?_); rintro e w2 ⟨rfl, hT, hP, hF⟩; have H2 := Lib.hid (And.intro hT hP); clear hT hP hF))
  exact bodyPost_ret (v := .tuple #[.pointer (some ⟨q, 0, none⟩), .nilIface]) (by simp [results, Try.results58, go_sem]) rfl ⟨rfl, ((Turned.refl _ _ _ _).ext_on H.out.1 H1.out.2.1).trans H2.out.1, H2.out.2⟩
set_option maxHeartbeats 1000000 in
set_option maxRecDepth 100000 in
theorem SB_def (q k : Nat) (ao : Option Addr) (w : World) (n : Nat) (hn1 : ¬ (n : Int) = 1) (hn2 : ¬ (n : Int) = 65) (hn3 : ¬ (n : Int) = 33) : Calls Try.prog 58 #[.pointer (some ⟨q, 0, none⟩), .slice ao n k] w fun e w' => (∃ t u, e = .returned (.tuple #[.pointer none, .iface t u])) ∧ Ext w w' := by
  go_enter Try.func58, Try.ntmps58
  go_wp2_with ((go_at_call 89; go_must (refine (errorsNew_any _ _).mono ?_); rintro e w1 ⟨⟨t, u, rfl⟩, hE1⟩))
  exact bodyPost_ret (v := .tuple #[.pointer none, .iface t u]) (by simp [results, Try.results58, go_sem]) rfl ⟨⟨t, u, rfl⟩, hE1⟩
set_option maxHeartbeats 1000000 in
set_option maxRecDepth 100000 in
theorem SB_def1 (q c k : Nat) (w : World) (v : Int) (h0 : w.cell? ⟨c, 0, none⟩ = some (.int .u8 v)) (hv : ¬ v = 0) : Calls Try.prog 58 #[.pointer (some ⟨q, 0, none⟩), .slice (some ⟨c, 0, none⟩) 1 k] w fun e w' => (∃ t u, e = .returned (.tuple #[.pointer none, .iface t u])) ∧ Ext w w' := by
  go_enter Try.func58, Try.ntmps58
  go_wp2_with ((go_at_call 89; go_must (refine (errorsNew_any _ _).mono ?_); rintro e w1 ⟨⟨t, u, rfl⟩, hE1⟩))
  exact bodyPost_ret (v := .tuple #[.pointer none, .iface t u]) (by simp [results, Try.results58, go_sem]) rfl ⟨⟨t, u, rfl⟩, hE1⟩
set_option maxHeartbeats 1000000 in
set_option maxRecDepth 100000 in
theorem SB_def65 (q c k : Nat) (w : World) (v : Int) (h0 : w.cell? ⟨c, 0, none⟩ = some (.int .u8 v)) (hv : ¬ v = 4) : Calls Try.prog 58 #[.pointer (some ⟨q, 0, none⟩), .slice (some ⟨c, 0, none⟩) 65 k] w fun e w' => (∃ t u, e = .returned (.tuple #[.pointer none, .iface t u])) ∧ Ext w w' := by
  go_enter Try.func58, Try.ntmps58
  go_wp2_with ((go_at_call 89; go_must (refine (errorsNew_any _ _).mono ?_); rintro e w1 ⟨⟨t, u, rfl⟩, hE1⟩))
  exact bodyPost_ret (v := .tuple #[.pointer none, .iface t u]) (by simp [results, Try.results58, go_sem]) rfl ⟨⟨t, u, rfl⟩, hE1⟩
set_option maxHeartbeats 1000000 in
set_option maxRecDepth 100000 in
theorem SB_def33 (q c k : Nat) (w : World) (v : Int) (h0 : w.cell? ⟨c, 0, none⟩ = some (.int .u8 v)) (hv : ¬ v = 2) (hv2 : ¬ v = 3) : Calls Try.prog 58 #[.pointer (some ⟨q, 0, none⟩), .slice (some ⟨c, 0, none⟩) 33 k] w fun e w' => (∃ t u, e = .returned (.tuple #[.pointer none, .iface t u])) ∧ Ext w w' := by
  have hv3 : ¬ ((v == 2) = true ∨ (v == 3) = true) := by simp [hv, hv2]
  go_enter Try.func58, Try.ntmps58
  go_wp2_with ((go_at_call 89; go_must (refine (errorsNew_any _ _).mono ?_); rintro e w1 ⟨⟨t, u, rfl⟩, hE1⟩))
  exact bodyPost_ret (v := .tuple #[.pointer none, .iface t u]) (by simp [results, Try.results58, go_sem]) rfl ⟨⟨t, u, rfl⟩, hE1⟩
set_option maxHeartbeats 1000000 in
set_option maxRecDepth 100000 in
theorem SB_aff (q c k : Nat) (w : World) (hq : q < w.heap.size) (hc : c < w.heap.size) (hf : Free w q 0 12) (x y : Fp) (h0 : w.cell? ⟨c, 0, none⟩ = some (.int .u8 4)) (hx : Held .u8 w c 1 (bds 32 (x.val : Int)).reverse) (hy : Held .u8 w c 33 (bds 32 (y.val : Int)).reverse) (ho : Onc x y) (hk : 65 ≤ k) : Calls Try.prog 58 #[.pointer (some ⟨q, 0, none⟩), .slice (some ⟨c, 0, none⟩) 65 k] w fun e w' => e = .returned (.tuple #[.pointer (some ⟨q, 0, none⟩), .nilIface]) ∧ Turned q 0 12 w w' ∧ Hp w' q 0 (.aff x y) := by
  have k1 : ¬ k = 1 := by omega
  have k33 : ¬ (k : Int) < 33 := by omega
  have k33' : (33 : Int) ≤ k := by omega
  have k65 : ¬ (k : Int) < 65 := by omega
  have k65' : (65 : Int) ≤ k := by omega
  clear hk
  have H := Lib.hid (And.intro hq (And.intro hc (And.intro hf (And.intro hx hy))))
  clear hq hc hf hx hy
  have HO := Lib.hid ho
  clear ho
  go_enter Try.func58, Try.ntmps58
  go_wp2_with (first | (go_at_call 83; first | ((with_reducible refine (SetB_any x w.heap.size 0 c 1 _ (w.alloc (.cells #[.int .u64 0, .int .u64 0, .int .u64 0, .int .u64 0] 111)) (by simp [size_alloc]) (size_al H.out.2.1 _) (Free.newWords (cs := #[.int .u64 0, .int .u64 0, .int .u64 0, .int .u64 0]) rfl rfl) (Held.alloc H.out.2.2.2.1 H.out.2.1 _)).mono ?_); rintro e w1 ⟨rfl, hT, hE⟩; have hE1 : Ext w w1 := Turned.ext_of_new (Ext.al w _) hT (Nat.le_refl _); have hl1 : w.heap.size < w1.heap.size := hT.lt (by simp [size_alloc]); have H1 := Lib.hid (And.intro hE1 (And.intro hl1 hE)); clear hT hE hE1 hl1) | ((with_reducible refine (SetB_any y w1.heap.size 0 c 33 _ (w1.alloc (.cells #[.int .u64 0, .int .u64 0, .int .u64 0, .int .u64 0] 111)) (by simp [size_alloc]) (size_al (H1.out.1.lt H.out.2.1) _) (Free.newWords (cs := #[.int .u64 0, .int .u64 0, .int .u64 0, .int .u64 0]) rfl rfl) (Held.alloc (H1.out.1.held H.out.2.1 H.out.2.2.2.2) (H1.out.1.lt H.out.2.1) _)).mono ?_); rintro e w2 ⟨rfl, hT, hE⟩; have hE2 : Ext w w2 := H1.out.1.trans (Turned.ext_of_new (Ext.al w1 _) hT (Nat.le_refl _)); have hl2 : w1.heap.size < w2.heap.size := hT.lt (by simp [size_alloc]); have he0 : Elt w2 w.heap.size 0 x := (H1.out.2.2.alloc H1.out.2.1 _).far hT (size_al H1.out.2.1 _) (.inl (Nat.ne_of_lt H1.out.2.1)); have H2 := Lib.hid (And.intro hE2 (And.intro (Nat.lt_trans H1.out.2.1 hl2) (And.intro hl2 (And.intro he0 hE)))); clear hT hE hE2 hl2 he0)) | (go_at_call 84; go_must (refine (Check_on w.heap.size w1.heap.size x y w2 H2.out.2.1 H2.out.2.2.1 H2.out.2.2.2.1 H2.out.2.2.2.2 HO.out).mono ?_); rintro e w3 ⟨rfl, hE⟩; have H3 := Lib.hid (And.intro (H2.out.1.trans hE) (And.intro (hE.lt H2.out.2.1) (And.intro (hE.lt H2.out.2.2.1) (And.intro (hE.elt H2.out.2.1 H2.out.2.2.2.1) (hE.elt H2.out.2.2.1 H2.out.2.2.2.2))))); clear hE) | (go_at_call 85; first | ((with_reducible refine (Elm_Set q 0 w.heap.size 0 x w3 (H3.out.1.lt H.out.1) H3.out.2.1 ((H3.out.1.free H.out.1 H.out.2.2.1).sub (by decide) (by decide)) H3.out.2.2.2.1).mono ?_); rintro e w4 ⟨rfl, hT, hE⟩; have hl4 : w1.heap.size < w4.heap.size := hT.lt H3.out.2.2.1; have he4 : Elt w4 w1.heap.size 0 y := H3.out.2.2.2.2.far hT H3.out.2.2.1 (.inl (by have := H1.out.1.lt H.out.1; omega)); have hq4 : q < w4.heap.size := hT.lt (H3.out.1.lt H.out.1); have hf4 := (H3.out.1.free H.out.1 H.out.2.2.1).turned hT hE (H3.out.1.lt H.out.1); have H4 := Lib.hid (And.intro hT (And.intro hE (And.intro hl4 (And.intro he4 (And.intro hq4 hf4))))); clear hT hE hl4 he4 hq4 hf4) | ((with_reducible refine (Elm_Set q 4 w1.heap.size 0 y w4 H4.out.2.2.2.2.1 H4.out.2.2.1 (H4.out.2.2.2.2.2.sub (by decide) (by decide)) H4.out.2.2.2.1).mono ?_); rintro e w5 ⟨rfl, hT, hE⟩; have H5 := Lib.hid (And.intro hT (And.intro hE (And.intro (hT.lt H4.out.2.2.2.2.1) (H4.out.2.2.2.2.2.turned hT hE H4.out.2.2.2.2.1)))); clear hT hE)) | (go_at_call 86; go_must (refine (Elm_One q 8 w5 H5.out.2.2.1 (H5.out.2.2.2.sub (by decide) (by decide))).mono ?_); rintro e w6 ⟨rfl, hT, hE⟩; have H6 := Lib.hid (And.intro hT hE); clear hT hE))
  have l5 := H5.out.2.2.1
  have l4 := H4.out.2.2.2.2.1
  have hT : Turned q 0 12 w w6 := ((((Turned.refl q 0 12 w).ext_on H.out.1 H3.out.1).trans (H4.out.1.part (by decide) (by decide))).trans (H5.out.1.part (by decide) (by decide))).trans (H6.out.1.part (by decide) (by decide))
  have hp : Pnt w6 q 0 x y 1 := ⟨(H4.out.2.1.far H5.out.1 l4 (.inr (by decide))).far H6.out.1 l5 (.inr (by decide)), H5.out.2.1.far H6.out.1 l5 (.inr (by decide)), H6.out.2⟩
  exact bodyPost_ret (v := .tuple #[.pointer (some ⟨q, 0, none⟩), .nilIface]) (by simp [results, Try.results58, go_sem]) rfl ⟨rfl, hT, x, y, 1, hp, ok_one x y HO.out, aff_one x y⟩
set_option maxHeartbeats 1000000 in
set_option maxRecDepth 100000 in
theorem SB_off (q c k : Nat) (w : World) (hq : q < w.heap.size) (hc : c < w.heap.size) (hf : Free w q 0 12) (x y : Fp) (h0 : w.cell? ⟨c, 0, none⟩ = some (.int .u8 4)) (hx : Held .u8 w c 1 (bds 32 (x.val : Int)).reverse) (hy : Held .u8 w c 33 (bds 32 (y.val : Int)).reverse) (ho : ¬ Onc x y) (hk : 65 ≤ k) : Calls Try.prog 58 #[.pointer (some ⟨q, 0, none⟩), .slice (some ⟨c, 0, none⟩) 65 k] w fun e w' => (∃ t u, e = .returned (.tuple #[.pointer none, .iface t u])) ∧ Ext w w' := by
  have k1 : ¬ k = 1 := by omega
  have k33 : ¬ (k : Int) < 33 := by omega
  have k33' : (33 : Int) ≤ k := by omega
  have k65 : ¬ (k : Int) < 65 := by omega
  have k65' : (65 : Int) ≤ k := by omega
  clear hk
  have H := Lib.hid (And.intro hq (And.intro hc (And.intro hf (And.intro hx hy))))
  clear hq hc hf hx hy
  have HO := Lib.hid ho
  clear ho
  go_enter Try.func58, Try.ntmps58
  go_wp2_with (first | (go_at_call 83; first | ((with_reducible refine (SetB_any x w.heap.size 0 c 1 _ (w.alloc (.cells #[.int .u64 0, .int .u64 0, .int .u64 0, .int .u64 0] 111)) (by simp [size_alloc]) (size_al H.out.2.1 _) (Free.newWords (cs := #[.int .u64 0, .int .u64 0, .int .u64 0, .int .u64 0]) rfl rfl) (Held.alloc H.out.2.2.2.1 H.out.2.1 _)).mono ?_); rintro e w1 ⟨rfl, hT, hE⟩; have hE1 : Ext w w1 := Turned.ext_of_new (Ext.al w _) hT (Nat.le_refl _); have hl1 : w.heap.size < w1.heap.size := hT.lt (by simp [size_alloc]); have H1 := Lib.hid (And.intro hE1 (And.intro hl1 hE)); clear hT hE hE1 hl1) | ((with_reducible refine (SetB_any y w1.heap.size 0 c 33 _ (w1.alloc (.cells #[.int .u64 0, .int .u64 0, .int .u64 0, .int .u64 0] 111)) (by simp [size_alloc]) (size_al (H1.out.1.lt H.out.2.1) _) (Free.newWords (cs := #[.int .u64 0, .int .u64 0, .int .u64 0, .int .u64 0]) rfl rfl) (Held.alloc (H1.out.1.held H.out.2.1 H.out.2.2.2.2) (H1.out.1.lt H.out.2.1) _)).mono ?_); rintro e w2 ⟨rfl, hT, hE⟩; have hE2 : Ext w w2 := H1.out.1.trans (Turned.ext_of_new (Ext.al w1 _) hT (Nat.le_refl _)); have hl2 : w1.heap.size < w2.heap.size := hT.lt (by simp [size_alloc]); have he0 : Elt w2 w.heap.size 0 x := (H1.out.2.2.alloc H1.out.2.1 _).far hT (size_al H1.out.2.1 _) (.inl (Nat.ne_of_lt H1.out.2.1)); have H2 := Lib.hid (And.intro hE2 (And.intro (Nat.lt_trans H1.out.2.1 hl2) (And.intro hl2 (And.intro he0 hE)))); clear hT hE hE2 hl2 he0)) | (go_at_call 84; go_must (refine (Check_off w.heap.size w1.heap.size x y w2 H2.out.2.1 H2.out.2.2.1 H2.out.2.2.2.1 H2.out.2.2.2.2 HO.out).mono ?_); rintro e w3 ⟨⟨t, u, rfl⟩, hE⟩; have H3 := Lib.hid (H2.out.1.trans hE); clear hE))
  exact bodyPost_ret (v := .tuple #[.pointer none, .iface t u]) (by simp [results, Try.results58, go_sem]) rfl ⟨⟨t, u, rfl⟩, H3.out⟩
set_option maxHeartbeats 1000000 in
set_option maxRecDepth 100000 in
theorem SB_badx65 (q c k : Nat) (w : World) (hq : q < w.heap.size) (hc : c < w.heap.size) (X : Int) (b0 : 0 ≤ X) (b1 : X < R256) (bp : ¬ X < pI) (h0 : w.cell? ⟨c, 0, none⟩ = some (.int .u8 4)) (hx : Held .u8 w c 1 (bds 32 X).reverse) (hk : 65 ≤ k) : Calls Try.prog 58 #[.pointer (some ⟨q, 0, none⟩), .slice (some ⟨c, 0, none⟩) 65 k] w fun e w' => (∃ t u, e = .returned (.tuple #[.pointer none, .iface t u])) ∧ Ext w w' := by
  have k1 : ¬ k = 1 := by omega
  have k33 : ¬ (k : Int) < 33 := by omega
  have k33' : (33 : Int) ≤ k := by omega
  have k65 : ¬ (k : Int) < 65 := by omega
  have k65' : (65 : Int) ≤ k := by omega
  clear hk
  have H := Lib.hid (And.intro hq (And.intro hc hx))
  have HB := Lib.hid (And.intro b0 (And.intro b1 (Int.not_lt.mp bp)))
  clear hq hc hx b0 b1 bp
  go_enter Try.func58, Try.ntmps58
  go_wp2_with ((go_at_call 83; ((with_reducible refine (SetBad_any X HB.out.1 HB.out.2.1 (Int.not_lt.mpr HB.out.2.2) w.heap.size 0 c 1 _ (w.alloc (.cells #[.int .u64 0, .int .u64 0, .int .u64 0, .int .u64 0] 111)) (by simp [size_alloc]) (size_al H.out.2.1 _) (Free.newWords (cs := #[.int .u64 0, .int .u64 0, .int .u64 0, .int .u64 0]) rfl rfl) (Held.alloc H.out.2.2 H.out.2.1 _)).mono ?_); rintro e w1 ⟨⟨t, u, rfl⟩, hE⟩; have H1 := Lib.hid hE; clear hE)))
  exact bodyPost_ret (v := .tuple #[.pointer none, .iface t u]) (by simp [results, Try.results58, go_sem]) rfl ⟨⟨t, u, rfl⟩, (Ext.al _ _).trans H1.out⟩
set_option maxHeartbeats 1000000 in
set_option maxRecDepth 100000 in
theorem SB_bady65 (q c k : Nat) (w : World) (hq : q < w.heap.size) (hc : c < w.heap.size) (hf : Free w q 0 12) (x : Fp) (Y : Int) (b0 : 0 ≤ Y) (b1 : Y < R256) (bp : ¬ Y < pI) (h0 : w.cell? ⟨c, 0, none⟩ = some (.int .u8 4)) (hx : Held .u8 w c 1 (bds 32 (x.val : Int)).reverse) (hy : Held .u8 w c 33 (bds 32 Y).reverse) (hk : 65 ≤ k) : Calls Try.prog 58 #[.pointer (some ⟨q, 0, none⟩), .slice (some ⟨c, 0, none⟩) 65 k] w fun e w' => (∃ t u, e = .returned (.tuple #[.pointer none, .iface t u])) ∧ Ext w w' := by
  have k1 : ¬ k = 1 := by omega
  have k33 : ¬ (k : Int) < 33 := by omega
  have k33' : (33 : Int) ≤ k := by omega
  have k65 : ¬ (k : Int) < 65 := by omega
  have k65' : (65 : Int) ≤ k := by omega
  clear hk
  have H := Lib.hid (And.intro hq (And.intro hc (And.intro hf (And.intro hx hx))))
  have HB := Lib.hid (And.intro b0 (And.intro b1 (Int.not_lt.mp bp)))
  have HY := Lib.hid hy
  clear hq hc hf hx b0 b1 bp hy
  go_enter Try.func58, Try.ntmps58
  go_wp2_with ((go_at_call 83; first | ((with_reducible refine (SetB_any x w.heap.size 0 c 1 _ (w.alloc (.cells #[.int .u64 0, .int .u64 0, .int .u64 0, .int .u64 0] 111)) (by simp [size_alloc]) (size_al H.out.2.1 _) (Free.newWords (cs := #[.int .u64 0, .int .u64 0, .int .u64 0, .int .u64 0]) rfl rfl) (Held.alloc H.out.2.2.2.1 H.out.2.1 _)).mono ?_); rintro e w1 ⟨rfl, hT, hE⟩; have hE1 : Ext w w1 := Turned.ext_of_new (Ext.al w _) hT (Nat.le_refl _); have hl1 : w.heap.size < w1.heap.size := hT.lt (by simp [size_alloc]); have H1 := Lib.hid (And.intro hE1 (And.intro hl1 hE)); clear hT hE hE1 hl1) | ((with_reducible refine (SetBad_any Y HB.out.1 HB.out.2.1 (Int.not_lt.mpr HB.out.2.2) w1.heap.size 0 c 33 _ (w1.alloc (.cells #[.int .u64 0, .int .u64 0, .int .u64 0, .int .u64 0] 111)) (by simp [size_alloc]) (size_al (H1.out.1.lt H.out.2.1) _) (Free.newWords (cs := #[.int .u64 0, .int .u64 0, .int .u64 0, .int .u64 0]) rfl rfl) (Held.alloc (H1.out.1.held H.out.2.1 HY.out) (H1.out.1.lt H.out.2.1) _)).mono ?_); rintro e w2 ⟨⟨t, u, rfl⟩, hE⟩; have H2 := Lib.hid (H1.out.1.trans ((Ext.al w1 _).trans hE)); clear hE)))
  exact bodyPost_ret (v := .tuple #[.pointer none, .iface t u]) (by simp [results, Try.results58, go_sem]) rfl ⟨⟨t, u, rfl⟩, H2.out⟩
set_option maxHeartbeats 1000000 in
set_option maxRecDepth 100000 in
theorem SB_noroot_2 (q c k : Nat) (w : World) (hq : q < w.heap.size) (hc : c < w.heap.size) (hf : Free w q 0 12) (x : Fp) (h0 : w.cell? ⟨c, 0, none⟩ = some (.int .u8 2)) (hx : Held .u8 w c 1 (bds 32 (x.val : Int)).reverse) (hr : ¬ (fpow (x * x * x - (x + x + x) + cB) ((pN + 1) / 4)) * (fpow (x * x * x - (x + x + x) + cB) ((pN + 1) / 4)) = (x * x * x - (x + x + x) + cB)) (hk : 33 ≤ k) : Calls Try.prog 58 #[.pointer (some ⟨q, 0, none⟩), .slice (some ⟨c, 0, none⟩) 33 k] w fun e w' => (∃ t u, e = .returned (.tuple #[.pointer none, .iface t u])) ∧ Ext w w' := by
  have k1 : ¬ k = 1 := by omega
  have k33 : ¬ (k : Int) < 33 := by omega
  have k33' : (33 : Int) ≤ k := by omega
  have k65 : ¬ (k : Int) < 33 := by omega
  have k65' : (33 : Int) ≤ k := by omega
  clear hk
  have H := Lib.hid (And.intro hq (And.intro hc (And.intro hf hx)))
  clear hq hc hf hx
  have HR := Lib.hid hr
  clear hr
  go_enter Try.func58, Try.ntmps58
  go_wp2_with (first | (go_at_call 83; ((with_reducible refine (SetB_any x w.heap.size 0 c 1 _ (w.alloc (.cells #[.int .u64 0, .int .u64 0, .int .u64 0, .int .u64 0] 111)) (by simp [size_alloc]) (size_al H.out.2.1 _) (Free.newWords (cs := #[.int .u64 0, .int .u64 0, .int .u64 0, .int .u64 0]) rfl rfl) (Held.alloc H.out.2.2.2 H.out.2.1 _)).mono ?_); rintro e w1 ⟨rfl, hT, hE⟩; have hE1 : Ext w w1 := Turned.ext_of_new (Ext.al w _) hT (Nat.le_refl _); have hl1 : w.heap.size < w1.heap.size := hT.lt (by simp [size_alloc]); have H1 := Lib.hid (And.intro hE1 (And.intro hl1 hE)); clear hT hE hE1 hl1)) | (go_at_call 87; go_must (refine (Poly_any w1.heap.size 0 w.heap.size 0 x (w1.alloc (.cells #[.int .u64 0, .int .u64 0, .int .u64 0, .int .u64 0] 111)) (by simp [size_alloc]) (size_al H1.out.2.1 _) (Free.newWords (cs := #[.int .u64 0, .int .u64 0, .int .u64 0, .int .u64 0]) rfl rfl) (H1.out.2.2.alloc H1.out.2.1 _) (apart0_ne (Nat.ne_of_lt H1.out.2.1))).mono ?_); rintro e w2 ⟨rfl, hT, hE⟩; have hE2 : Ext w w2 := H1.out.1.trans (Turned.ext_of_new (Ext.al w1 _) hT (Nat.le_refl _)); have hl2 : w1.heap.size < w2.heap.size := hT.lt (by simp [size_alloc]); have he0 : Elt w2 w.heap.size 0 x := (H1.out.2.2.alloc H1.out.2.1 _).far hT (size_al H1.out.2.1 _) (.inl (Nat.ne_of_lt H1.out.2.1)); have hf2 : Free w2 w1.heap.size 0 4 := Free.turned (Free.newWords (cs := #[.int .u64 0, .int .u64 0, .int .u64 0, .int .u64 0]) rfl rfl) hT hE (by simp [size_alloc]); have H2 := Lib.hid (And.intro hE2 (And.intro (Nat.lt_trans H1.out.2.1 hl2) (And.intro hl2 (And.intro he0 (And.intro hE hf2))))); clear hT hE hE2 hl2 he0 hf2) | (go_at_call 88; go_must (refine (Sqrt_no w1.heap.size 0 w1.heap.size 0 (x * x * x - (x + x + x) + cB) w2 H2.out.2.2.1 H2.out.2.2.1 H2.out.2.2.2.2.2 H2.out.2.2.2.2.1 HR.out).mono ?_); rintro e w3 ⟨rfl, hE⟩; have H3 := Lib.hid hE; clear hE) | (go_at_call 89; go_must (refine (errorsNew_any _ _).mono ?_); rintro e w4 ⟨⟨t, u, rfl⟩, hE4⟩))
  exact bodyPost_ret (v := .tuple #[.pointer none, .iface t u]) (by simp [results, Try.results58, go_sem]) rfl ⟨⟨t, u, rfl⟩, (H2.out.1.trans H3.out).trans hE4⟩
set_option maxHeartbeats 1000000 in
set_option maxRecDepth 100000 in
theorem SB_noroot_3 (q c k : Nat) (w : World) (hq : q < w.heap.size) (hc : c < w.heap.size) (hf : Free w q 0 12) (x : Fp) (h0 : w.cell? ⟨c, 0, none⟩ = some (.int .u8 3)) (hx : Held .u8 w c 1 (bds 32 (x.val : Int)).reverse) (hr : ¬ (fpow (x * x * x - (x + x + x) + cB) ((pN + 1) / 4)) * (fpow (x * x * x - (x + x + x) + cB) ((pN + 1) / 4)) = (x * x * x - (x + x + x) + cB)) (hk : 33 ≤ k) : Calls Try.prog 58 #[.pointer (some ⟨q, 0, none⟩), .slice (some ⟨c, 0, none⟩) 33 k] w fun e w' => (∃ t u, e = .returned (.tuple #[.pointer none, .iface t u])) ∧ Ext w w' := by
  have k1 : ¬ k = 1 := by omega
  have k33 : ¬ (k : Int) < 33 := by omega
  have k33' : (33 : Int) ≤ k := by omega
  have k65 : ¬ (k : Int) < 33 := by omega
  have k65' : (33 : Int) ≤ k := by omega
  clear hk
  have H := Lib.hid (And.intro hq (And.intro hc (And.intro hf hx)))
  clear hq hc hf hx
  have HR := Lib.hid hr
  clear hr
  go_enter Try.func58, Try.ntmps58
  go_wp2_with (first | (go_at_call 83; ((with_reducible refine (SetB_any x w.heap.size 0 c 1 _ (w.alloc (.cells #[.int .u64 0, .int .u64 0, .int .u64 0, .int .u64 0] 111)) (by simp [size_alloc]) (size_al H.out.2.1 _) (Free.newWords (cs := #[.int .u64 0, .int .u64 0, .int .u64 0, .int .u64 0]) rfl rfl) (Held.alloc H.out.2.2.2 H.out.2.1 _)).mono ?_); rintro e w1 ⟨rfl, hT, hE⟩; have hE1 : Ext w w1 := Turned.ext_of_new (Ext.al w _) hT (Nat.le_refl _); have hl1 : w.heap.size < w1.heap.size := hT.lt (by simp [size_alloc]); have H1 := Lib.hid (And.intro hE1 (And.intro hl1 hE)); clear hT hE hE1 hl1)) | (go_at_call 87; go_must (refine (Poly_any w1.heap.size 0 w.heap.size 0 x (w1.alloc (.cells #[.int .u64 0, .int .u64 0, .int .u64 0, .int .u64 0] 111)) (by simp [size_alloc]) (size_al H1.out.2.1 _) (Free.newWords (cs := #[.int .u64 0, .int .u64 0, .int .u64 0, .int .u64 0]) rfl rfl) (H1.out.2.2.alloc H1.out.2.1 _) (apart0_ne (Nat.ne_of_lt H1.out.2.1))).mono ?_); rintro e w2 ⟨rfl, hT, hE⟩; have hE2 : Ext w w2 := H1.out.1.trans (Turned.ext_of_new (Ext.al w1 _) hT (Nat.le_refl _)); have hl2 : w1.heap.size < w2.heap.size := hT.lt (by simp [size_alloc]); have he0 : Elt w2 w.heap.size 0 x := (H1.out.2.2.alloc H1.out.2.1 _).far hT (size_al H1.out.2.1 _) (.inl (Nat.ne_of_lt H1.out.2.1)); have hf2 : Free w2 w1.heap.size 0 4 := Free.turned (Free.newWords (cs := #[.int .u64 0, .int .u64 0, .int .u64 0, .int .u64 0]) rfl rfl) hT hE (by simp [size_alloc]); have H2 := Lib.hid (And.intro hE2 (And.intro (Nat.lt_trans H1.out.2.1 hl2) (And.intro hl2 (And.intro he0 (And.intro hE hf2))))); clear hT hE hE2 hl2 he0 hf2) | (go_at_call 88; go_must (refine (Sqrt_no w1.heap.size 0 w1.heap.size 0 (x * x * x - (x + x + x) + cB) w2 H2.out.2.2.1 H2.out.2.2.1 H2.out.2.2.2.2.2 H2.out.2.2.2.2.1 HR.out).mono ?_); rintro e w3 ⟨rfl, hE⟩; have H3 := Lib.hid hE; clear hE) | (go_at_call 89; go_must (refine (errorsNew_any _ _).mono ?_); rintro e w4 ⟨⟨t, u, rfl⟩, hE4⟩))
  exact bodyPost_ret (v := .tuple #[.pointer none, .iface t u]) (by simp [results, Try.results58, go_sem]) rfl ⟨⟨t, u, rfl⟩, (H2.out.1.trans H3.out).trans hE4⟩
set_option maxHeartbeats 1000000 in
set_option maxRecDepth 100000 in
theorem SB_badx33_2 (q c k : Nat) (w : World) (hq : q < w.heap.size) (hc : c < w.heap.size) (X : Int) (b0 : 0 ≤ X) (b1 : X < R256) (bp : ¬ X < pI) (h0 : w.cell? ⟨c, 0, none⟩ = some (.int .u8 2)) (hx : Held .u8 w c 1 (bds 32 X).reverse) (hk : 33 ≤ k) : Calls Try.prog 58 #[.pointer (some ⟨q, 0, none⟩), .slice (some ⟨c, 0, none⟩) 33 k] w fun e w' => (∃ t u, e = .returned (.tuple #[.pointer none, .iface t u])) ∧ Ext w w' := by
  have k1 : ¬ k = 1 := by omega
  have k33 : ¬ (k : Int) < 33 := by omega
  have k33' : (33 : Int) ≤ k := by omega
  have k65 : ¬ (k : Int) < 33 := by omega
  have k65' : (33 : Int) ≤ k := by omega
  clear hk
  have H := Lib.hid (And.intro hq (And.intro hc hx))
  have HB := Lib.hid (And.intro b0 (And.intro b1 (Int.not_lt.mp bp)))
  clear hq hc hx b0 b1 bp
  go_enter Try.func58, Try.ntmps58
  go_wp2_with ((go_at_call 83; ((with_reducible refine (SetBad_any X HB.out.1 HB.out.2.1 (Int.not_lt.mpr HB.out.2.2) w.heap.size 0 c 1 _ (w.alloc (.cells #[.int .u64 0, .int .u64 0, .int .u64 0, .int .u64 0] 111)) (by simp [size_alloc]) (size_al H.out.2.1 _) (Free.newWords (cs := #[.int .u64 0, .int .u64 0, .int .u64 0, .int .u64 0]) rfl rfl) (Held.alloc H.out.2.2 H.out.2.1 _)).mono ?_); rintro e w1 ⟨⟨t, u, rfl⟩, hE⟩; have H1 := Lib.hid hE; clear hE)))
  exact bodyPost_ret (v := .tuple #[.pointer none, .iface t u]) (by simp [results, Try.results58, go_sem]) rfl ⟨⟨t, u, rfl⟩, (Ext.al _ _).trans H1.out⟩
set_option maxHeartbeats 1000000 in
set_option maxRecDepth 100000 in
theorem SB_badx33_3 (q c k : Nat) (w : World) (hq : q < w.heap.size) (hc : c < w.heap.size) (X : Int) (b0 : 0 ≤ X) (b1 : X < R256) (bp : ¬ X < pI) (h0 : w.cell? ⟨c, 0, none⟩ = some (.int .u8 3)) (hx : Held .u8 w c 1 (bds 32 X).reverse) (hk : 33 ≤ k) : Calls Try.prog 58 #[.pointer (some ⟨q, 0, none⟩), .slice (some ⟨c, 0, none⟩) 33 k] w fun e w' => (∃ t u, e = .returned (.tuple #[.pointer none, .iface t u])) ∧ Ext w w' := by
  have k1 : ¬ k = 1 := by omega
  have k33 : ¬ (k : Int) < 33 := by omega
  have k33' : (33 : Int) ≤ k := by omega
  have k65 : ¬ (k : Int) < 33 := by omega
  have k65' : (33 : Int) ≤ k := by omega
  clear hk
  have H := Lib.hid (And.intro hq (And.intro hc hx))
  have HB := Lib.hid (And.intro b0 (And.intro b1 (Int.not_lt.mp bp)))
  clear hq hc hx b0 b1 bp
  go_enter Try.func58, Try.ntmps58
  go_wp2_with ((go_at_call 83; ((with_reducible refine (SetBad_any X HB.out.1 HB.out.2.1 (Int.not_lt.mpr HB.out.2.2) w.heap.size 0 c 1 _ (w.alloc (.cells #[.int .u64 0, .int .u64 0, .int .u64 0, .int .u64 0] 111)) (by simp [size_alloc]) (size_al H.out.2.1 _) (Free.newWords (cs := #[.int .u64 0, .int .u64 0, .int .u64 0, .int .u64 0]) rfl rfl) (Held.alloc H.out.2.2 H.out.2.1 _)).mono ?_); rintro e w1 ⟨⟨t, u, rfl⟩, hE⟩; have H1 := Lib.hid hE; clear hE)))
  exact bodyPost_ret (v := .tuple #[.pointer none, .iface t u]) (by simp [results, Try.results58, go_sem]) rfl ⟨⟨t, u, rfl⟩, (Ext.al _ _).trans H1.out⟩
set_option maxHeartbeats 1000000 in
set_option maxRecDepth 100000 in
theorem SB_comp02 (q c k : Nat) (w : World) (hq : q < w.heap.size) (hc : c < w.heap.size) (hf : Free w q 0 12) (x : Fp) (r : Fp) (lv : Int) (hl : (Bx r)[31]? = some lv) (ha : bits BinOp.and IntKind.u8 lv 1 = 0) (h0 : w.cell? ⟨c, 0, none⟩ = some (.int .u8 2)) (hx : Held .u8 w c 1 (bds 32 (x.val : Int)).reverse) (hr : (fpow (x * x * x - (x + x + x) + cB) ((pN + 1) / 4)) * (fpow (x * x * x - (x + x + x) + cB) ((pN + 1) / 4)) = (x * x * x - (x + x + x) + cB)) (hre : (fpow (x * x * x - (x + x + x) + cB) ((pN + 1) / 4)) = r) (ho : Onc x r) (hk : 33 ≤ k) : Calls Try.prog 58 #[.pointer (some ⟨q, 0, none⟩), .slice (some ⟨c, 0, none⟩) 33 k] w fun e w' => e = .returned (.tuple #[.pointer (some ⟨q, 0, none⟩), .nilIface]) ∧ Turned q 0 12 w w' ∧ Hp w' q 0 (.aff x r) := by
  have k1 : ¬ k = 1 := by omega
  have k33 : ¬ (k : Int) < 33 := by omega
  have k33' : (33 : Int) ≤ k := by omega
  have k65 : ¬ (k : Int) < 33 := by omega
  have k65' : (33 : Int) ≤ k := by omega
  clear hk
  have H := Lib.hid (And.intro hq (And.intro hc (And.intro hf hx)))
  clear hq hc hf hx
  have HR := Lib.hid (And.intro hr hre)
  have HO := Lib.hid ho
  clear hr hre ho
  go_enter Try.func58, Try.ntmps58
  go_wp2_with (first | (go_at_call 83; ((with_reducible refine (SetB_any x w.heap.size 0 c 1 _ (w.alloc (.cells #[.int .u64 0, .int .u64 0, .int .u64 0, .int .u64 0] 111)) (by simp [size_alloc]) (size_al H.out.2.1 _) (Free.newWords (cs := #[.int .u64 0, .int .u64 0, .int .u64 0, .int .u64 0]) rfl rfl) (Held.alloc H.out.2.2.2 H.out.2.1 _)).mono ?_); rintro e w1 ⟨rfl, hT, hE⟩; have hE1 : Ext w w1 := Turned.ext_of_new (Ext.al w _) hT (Nat.le_refl _); have hl1 : w.heap.size < w1.heap.size := hT.lt (by simp [size_alloc]); have H1 := Lib.hid (And.intro hE1 (And.intro hl1 hE)); clear hT hE hE1 hl1)) | (go_at_call 87; go_must (refine (Poly_any w1.heap.size 0 w.heap.size 0 x (w1.alloc (.cells #[.int .u64 0, .int .u64 0, .int .u64 0, .int .u64 0] 111)) (by simp [size_alloc]) (size_al H1.out.2.1 _) (Free.newWords (cs := #[.int .u64 0, .int .u64 0, .int .u64 0, .int .u64 0]) rfl rfl) (H1.out.2.2.alloc H1.out.2.1 _) (apart0_ne (Nat.ne_of_lt H1.out.2.1))).mono ?_); rintro e w2 ⟨rfl, hT, hE⟩; have hE2 : Ext w w2 := H1.out.1.trans (Turned.ext_of_new (Ext.al w1 _) hT (Nat.le_refl _)); have hl2 : w1.heap.size < w2.heap.size := hT.lt (by simp [size_alloc]); have he0 : Elt w2 w.heap.size 0 x := (H1.out.2.2.alloc H1.out.2.1 _).far hT (size_al H1.out.2.1 _) (.inl (Nat.ne_of_lt H1.out.2.1)); have hf2 : Free w2 w1.heap.size 0 4 := Free.turned (Free.newWords (cs := #[.int .u64 0, .int .u64 0, .int .u64 0, .int .u64 0]) rfl rfl) hT hE (by simp [size_alloc]); have H2 := Lib.hid (And.intro hE2 (And.intro (Nat.lt_trans H1.out.2.1 hl2) (And.intro hl2 (And.intro he0 (And.intro hE hf2))))); clear hT hE hE2 hl2 he0 hf2) | (go_at_call 88; go_must (refine (Sqrt_yes w1.heap.size 0 w1.heap.size 0 (x * x * x - (x + x + x) + cB) w2 H2.out.2.2.1 H2.out.2.2.1 H2.out.2.2.2.2.2 H2.out.2.2.2.2.1 HR.out.1).mono ?_); rintro e w3 ⟨rfl, hT, hE⟩; have hE3 : Ext w w3 := Turned.ext_of_new H2.out.1 hT (Nat.le_of_lt H1.out.2.1); have he0 : Elt w3 w.heap.size 0 x := H2.out.2.2.2.1.far hT H2.out.2.1 (.inl (Nat.ne_of_lt H1.out.2.1)); have hf3 := H2.out.2.2.2.2.2.turned hT hE H2.out.2.2.1; rw [HR.out.2] at hE; have H3 := Lib.hid (And.intro hE3 (And.intro (hT.lt H2.out.2.1) (And.intro (hT.lt H2.out.2.2.1) (And.intro he0 (And.intro hE hf3))))); clear hT hE hE3 he0 hf3) | (go_at_call 90; go_must (refine (Elm_Sub w3.heap.size 0 w3.heap.size 0 w1.heap.size 0 0 r (w3.alloc (.cells #[.int .u64 0, .int .u64 0, .int .u64 0, .int .u64 0] 111)) (by simp [size_alloc]) (by simp [size_alloc]) (size_al H3.out.2.2.1 _) (Free.newWords (cs := #[.int .u64 0, .int .u64 0, .int .u64 0, .int .u64 0]) rfl rfl) (Elt.zero (len := 4) _ (heap_at w3 _ _ rfl) (by decide)) (H3.out.2.2.2.2.1.alloc H3.out.2.2.1 _)).mono ?_); rintro e w4 ⟨rfl, hT, hE⟩; have hE4 : Ext w3 w4 := Turned.ext_of_new (Ext.al w3 _) hT (Nat.le_refl _); have H4 := Lib.hid (And.intro (H3.out.1.trans hE4) (And.intro (hE4.lt H3.out.2.1) (And.intro (hE4.lt H3.out.2.2.1) (And.intro (hE4.elt H3.out.2.1 H3.out.2.2.2.1) (And.intro (hE4.elt H3.out.2.2.1 H3.out.2.2.2.2.1) (And.intro (hE4.free H3.out.2.2.1 H3.out.2.2.2.2.2) (And.intro (show w3.heap.size < w4.heap.size from hT.lt (by simp [size_alloc])) hE))))))); clear hT hE hE4))
  have q4 : w4.cell? ⟨c, 0, none⟩ = some (.int .u8 2) := cell_ext' H4.out.1 h0
  have q4' : w4.drew.cell? ⟨c, 0, none⟩ = some (.int .u8 2) := q4
  have hd1 : w1.heap.size < w4.drew.heap.size := H4.out.2.2.1
  have hd2 : Elt w4.drew w1.heap.size 0 r := H4.out.2.2.2.2.1
  have HD := Lib.hid (And.intro hd1 hd2)
  have HL := Lib.hid (show (bds 32 (r.val : Int)).reverse[31]? = some lv from hl)
  have hv : bits BinOp.and IntKind.u8 2 1 = 0 := by decide +kernel
  have hxo : bits BinOp.xor IntKind.u8 0 0 = 0 := by decide +kernel
  clear hd1 hd2 hl
  go_region_with ((go_at_call 91; ((with_reducible refine (Bytes_any w1.heap.size 0 r w4.drew HD.out.1 HD.out.2).mono ?_); rintro e w5 ⟨rfl, hE, hs, hB⟩; have q5 := cell_ext' hE q4'; have q6 : w5.cell? ⟨w4.heap.size, 31, none⟩ = some (.int .u8 lv) := (by have := hB 31 lv HL.out; simpa using this); have H5 := Lib.hid (Ext.of_drew hE); clear hE hs hB)))
  all_goals
    go_wp2_with (first | (go_at_call 92; go_must (refine (Elm_Select0 w1.heap.size 0 w3.heap.size 0 w1.heap.size 0 (0 - r) r w5 (H5.out.lt H4.out.2.2.1) (H5.out.lt H4.out.2.2.2.2.2.2.1) (H5.out.lt H4.out.2.2.1) (H5.out.free H4.out.2.2.1 H4.out.2.2.2.2.2.1) (H5.out.elt H4.out.2.2.2.2.2.2.1 H4.out.2.2.2.2.2.2.2) (H5.out.elt H4.out.2.2.1 H4.out.2.2.2.2.1)).mono ?_); rintro e w6 ⟨rfl, hT, hE⟩; have hE6 : Ext w w6 := Turned.ext_of_new (H4.out.1.trans H5.out) hT (Nat.le_of_lt H1.out.2.1); have he6 : Elt w6 w.heap.size 0 x := (H5.out.elt H4.out.2.1 H4.out.2.2.2.1).far hT (H5.out.lt H4.out.2.1) (.inl (Nat.ne_of_lt H1.out.2.1)); have H6 := Lib.hid (And.intro hE6 (And.intro (hT.lt (H5.out.lt H4.out.2.1)) (And.intro (hT.lt (H5.out.lt H4.out.2.2.1)) (And.intro he6 hE)))); clear hT hE hE6 he6) | (go_at_call 85; first | ((with_reducible refine (Elm_Set q 0 w.heap.size 0 x w6 (H6.out.1.lt H.out.1) H6.out.2.1 ((H6.out.1.free H.out.1 H.out.2.2.1).sub (by decide) (by decide)) H6.out.2.2.2.1).mono ?_); rintro e w7 ⟨rfl, hT, hE⟩; have hl4 : w1.heap.size < w7.heap.size := hT.lt H6.out.2.2.1; have he4 : Elt w7 w1.heap.size 0 r := H6.out.2.2.2.2.far hT H6.out.2.2.1 (.inl (by have := H1.out.1.lt H.out.1; omega)); have hq4 : q < w7.heap.size := hT.lt (H6.out.1.lt H.out.1); have hf4 := (H6.out.1.free H.out.1 H.out.2.2.1).turned hT hE (H6.out.1.lt H.out.1); have H7 := Lib.hid (And.intro hT (And.intro hE (And.intro hl4 (And.intro he4 (And.intro hq4 hf4))))); clear hT hE hl4 he4 hq4 hf4) | ((with_reducible refine (Elm_Set q 4 w1.heap.size 0 r w7 H7.out.2.2.2.2.1 H7.out.2.2.1 (H7.out.2.2.2.2.2.sub (by decide) (by decide)) H7.out.2.2.2.1).mono ?_); rintro e w8 ⟨rfl, hT, hE⟩; have H8 := Lib.hid (And.intro hT (And.intro hE (And.intro (hT.lt H7.out.2.2.2.2.1) (H7.out.2.2.2.2.2.turned hT hE H7.out.2.2.2.2.1)))); clear hT hE)) | (go_at_call 86; go_must (refine (Elm_One q 8 w8 H8.out.2.2.1 (H8.out.2.2.2.sub (by decide) (by decide))).mono ?_); rintro e w9 ⟨rfl, hT, hE⟩; have H9 := Lib.hid (And.intro hT hE); clear hT hE))
    have l8 := H8.out.2.2.1
    have l7 := H7.out.2.2.2.2.1
    have hT : Turned q 0 12 w w9 := ((((Turned.refl q 0 12 w).ext_on H.out.1 H6.out.1).trans (H7.out.1.part (by decide) (by decide))).trans (H8.out.1.part (by decide) (by decide))).trans (H9.out.1.part (by decide) (by decide))
    have hp : Pnt w9 q 0 x r 1 := ⟨(H7.out.2.1.far H8.out.1 l7 (.inr (by decide))).far H9.out.1 l8 (.inr (by decide)), H8.out.2.1.far H9.out.1 l8 (.inr (by decide)), H9.out.2⟩
    exact bodyPost_ret (v := .tuple #[.pointer (some ⟨q, 0, none⟩), .nilIface]) (by simp [results, Try.results58, go_sem]) rfl ⟨rfl, hT, x, r, 1, hp, ok_one x r HO.out, aff_one x r⟩
set_option maxHeartbeats 1000000 in
set_option maxRecDepth 100000 in
theorem SB_comp03 (q c k : Nat) (w : World) (hq : q < w.heap.size) (hc : c < w.heap.size) (hf : Free w q 0 12) (x : Fp) (r : Fp) (lv : Int) (hl : (Bx r)[31]? = some lv) (ha : bits BinOp.and IntKind.u8 lv 1 = 0) (h0 : w.cell? ⟨c, 0, none⟩ = some (.int .u8 3)) (hx : Held .u8 w c 1 (bds 32 (x.val : Int)).reverse) (hr : (fpow (x * x * x - (x + x + x) + cB) ((pN + 1) / 4)) * (fpow (x * x * x - (x + x + x) + cB) ((pN + 1) / 4)) = (x * x * x - (x + x + x) + cB)) (hre : (fpow (x * x * x - (x + x + x) + cB) ((pN + 1) / 4)) = r) (ho : Onc x (0 - r)) (hk : 33 ≤ k) : Calls Try.prog 58 #[.pointer (some ⟨q, 0, none⟩), .slice (some ⟨c, 0, none⟩) 33 k] w fun e w' => e = .returned (.tuple #[.pointer (some ⟨q, 0, none⟩), .nilIface]) ∧ Turned q 0 12 w w' ∧ Hp w' q 0 (.aff x (0 - r)) := by
  have k1 : ¬ k = 1 := by omega
  have k33 : ¬ (k : Int) < 33 := by omega
  have k33' : (33 : Int) ≤ k := by omega
  have k65 : ¬ (k : Int) < 33 := by omega
  have k65' : (33 : Int) ≤ k := by omega
  clear hk
  have H := Lib.hid (And.intro hq (And.intro hc (And.intro hf hx)))
  clear hq hc hf hx
  have HR := Lib.hid (And.intro hr hre)
  have HO := Lib.hid ho
  clear hr hre ho
  go_enter Try.func58, Try.ntmps58
  go_wp2_with (first | (go_at_call 83; ((with_reducible refine (SetB_any x w.heap.size 0 c 1 _ (w.alloc (.cells #[.int .u64 0, .int .u64 0, .int .u64 0, .int .u64 0] 111)) (by simp [size_alloc]) (size_al H.out.2.1 _) (Free.newWords (cs := #[.int .u64 0, .int .u64 0, .int .u64 0, .int .u64 0]) rfl rfl) (Held.alloc H.out.2.2.2 H.out.2.1 _)).mono ?_); rintro e w1 ⟨rfl, hT, hE⟩; have hE1 : Ext w w1 := Turned.ext_of_new (Ext.al w _) hT (Nat.le_refl _); have hl1 : w.heap.size < w1.heap.size := hT.lt (by simp [size_alloc]); have H1 := Lib.hid (And.intro hE1 (And.intro hl1 hE)); clear hT hE hE1 hl1)) | (go_at_call 87; go_must (refine (Poly_any w1.heap.size 0 w.heap.size 0 x (w1.alloc (.cells #[.int .u64 0, .int .u64 0, .int .u64 0, .int .u64 0] 111)) (by simp [size_alloc]) (size_al H1.out.2.1 _) (Free.newWords (cs := #[.int .u64 0, .int .u64 0, .int .u64 0, .int .u64 0]) rfl rfl) (H1.out.2.2.alloc H1.out.2.1 _) (apart0_ne (Nat.ne_of_lt H1.out.2.1))).mono ?_); rintro e w2 ⟨rfl, hT, hE⟩; have hE2 : Ext w w2 := H1.out.1.trans (Turned.ext_of_new (Ext.al w1 _) hT (Nat.le_refl _)); have hl2 : w1.heap.size < w2.heap.size := hT.lt (by simp [size_alloc]); have he0 : Elt w2 w.heap.size 0 x := (H1.out.2.2.alloc H1.out.2.1 _).far hT (size_al H1.out.2.1 _) (.inl (Nat.ne_of_lt H1.out.2.1)); have hf2 : Free w2 w1.heap.size 0 4 := Free.turned (Free.newWords (cs := #[.int .u64 0, .int .u64 0, .int .u64 0, .int .u64 0]) rfl rfl) hT hE (by simp [size_alloc]); have H2 := Lib.hid (And.intro hE2 (And.intro (Nat.lt_trans H1.out.2.1 hl2) (And.intro hl2 (And.intro he0 (And.intro hE hf2))))); clear hT hE hE2 hl2 he0 hf2) | (go_at_call 88; go_must (refine (Sqrt_yes w1.heap.size 0 w1.heap.size 0 (x * x * x - (x + x + x) + cB) w2 H2.out.2.2.1 H2.out.2.2.1 H2.out.2.2.2.2.2 H2.out.2.2.2.2.1 HR.out.1).mono ?_); rintro e w3 ⟨rfl, hT, hE⟩; have hE3 : Ext w w3 := Turned.ext_of_new H2.out.1 hT (Nat.le_of_lt H1.out.2.1); have he0 : Elt w3 w.heap.size 0 x := H2.out.2.2.2.1.far hT H2.out.2.1 (.inl (Nat.ne_of_lt H1.out.2.1)); have hf3 := H2.out.2.2.2.2.2.turned hT hE H2.out.2.2.1; rw [HR.out.2] at hE; have H3 := Lib.hid (And.intro hE3 (And.intro (hT.lt H2.out.2.1) (And.intro (hT.lt H2.out.2.2.1) (And.intro he0 (And.intro hE hf3))))); clear hT hE hE3 he0 hf3) | (go_at_call 90; go_must (refine (Elm_Sub w3.heap.size 0 w3.heap.size 0 w1.heap.size 0 0 r (w3.alloc (.cells #[.int .u64 0, .int .u64 0, .int .u64 0, .int .u64 0] 111)) (by simp [size_alloc]) (by simp [size_alloc]) (size_al H3.out.2.2.1 _) (Free.newWords (cs := #[.int .u64 0, .int .u64 0, .int .u64 0, .int .u64 0]) rfl rfl) (Elt.zero (len := 4) _ (heap_at w3 _ _ rfl) (by decide)) (H3.out.2.2.2.2.1.alloc H3.out.2.2.1 _)).mono ?_); rintro e w4 ⟨rfl, hT, hE⟩; have hE4 : Ext w3 w4 := Turned.ext_of_new (Ext.al w3 _) hT (Nat.le_refl _); have H4 := Lib.hid (And.intro (H3.out.1.trans hE4) (And.intro (hE4.lt H3.out.2.1) (And.intro (hE4.lt H3.out.2.2.1) (And.intro (hE4.elt H3.out.2.1 H3.out.2.2.2.1) (And.intro (hE4.elt H3.out.2.2.1 H3.out.2.2.2.2.1) (And.intro (hE4.free H3.out.2.2.1 H3.out.2.2.2.2.2) (And.intro (show w3.heap.size < w4.heap.size from hT.lt (by simp [size_alloc])) hE))))))); clear hT hE hE4))
  have q4 : w4.cell? ⟨c, 0, none⟩ = some (.int .u8 3) := cell_ext' H4.out.1 h0
  have q4' : w4.drew.cell? ⟨c, 0, none⟩ = some (.int .u8 3) := q4
  have hd1 : w1.heap.size < w4.drew.heap.size := H4.out.2.2.1
  have hd2 : Elt w4.drew w1.heap.size 0 r := H4.out.2.2.2.2.1
  have HD := Lib.hid (And.intro hd1 hd2)
  have HL := Lib.hid (show (bds 32 (r.val : Int)).reverse[31]? = some lv from hl)
  have hv : bits BinOp.and IntKind.u8 3 1 = 1 := by decide +kernel
  have hxo : bits BinOp.xor IntKind.u8 0 1 = 1 := by decide +kernel
  clear hd1 hd2 hl
  go_region_with ((go_at_call 91; ((with_reducible refine (Bytes_any w1.heap.size 0 r w4.drew HD.out.1 HD.out.2).mono ?_); rintro e w5 ⟨rfl, hE, hs, hB⟩; have q5 := cell_ext' hE q4'; have q6 : w5.cell? ⟨w4.heap.size, 31, none⟩ = some (.int .u8 lv) := (by have := hB 31 lv HL.out; simpa using this); have H5 := Lib.hid (Ext.of_drew hE); clear hE hs hB)))
  all_goals
    go_wp2_with (first | (go_at_call 92; go_must (refine (Elm_Select1 w1.heap.size 0 w3.heap.size 0 w1.heap.size 0 (0 - r) r w5 (H5.out.lt H4.out.2.2.1) (H5.out.lt H4.out.2.2.2.2.2.2.1) (H5.out.lt H4.out.2.2.1) (H5.out.free H4.out.2.2.1 H4.out.2.2.2.2.2.1) (H5.out.elt H4.out.2.2.2.2.2.2.1 H4.out.2.2.2.2.2.2.2) (H5.out.elt H4.out.2.2.1 H4.out.2.2.2.2.1)).mono ?_); rintro e w6 ⟨rfl, hT, hE⟩; have hE6 : Ext w w6 := Turned.ext_of_new (H4.out.1.trans H5.out) hT (Nat.le_of_lt H1.out.2.1); have he6 : Elt w6 w.heap.size 0 x := (H5.out.elt H4.out.2.1 H4.out.2.2.2.1).far hT (H5.out.lt H4.out.2.1) (.inl (Nat.ne_of_lt H1.out.2.1)); have H6 := Lib.hid (And.intro hE6 (And.intro (hT.lt (H5.out.lt H4.out.2.1)) (And.intro (hT.lt (H5.out.lt H4.out.2.2.1)) (And.intro he6 hE)))); clear hT hE hE6 he6) | (go_at_call 85; first | ((with_reducible refine (Elm_Set q 0 w.heap.size 0 x w6 (H6.out.1.lt H.out.1) H6.out.2.1 ((H6.out.1.free H.out.1 H.out.2.2.1).sub (by decide) (by decide)) H6.out.2.2.2.1).mono ?_); rintro e w7 ⟨rfl, hT, hE⟩; have hl4 : w1.heap.size < w7.heap.size := hT.lt H6.out.2.2.1; have he4 : Elt w7 w1.heap.size 0 (0 - r) := H6.out.2.2.2.2.far hT H6.out.2.2.1 (.inl (by have := H1.out.1.lt H.out.1; omega)); have hq4 : q < w7.heap.size := hT.lt (H6.out.1.lt H.out.1); have hf4 := (H6.out.1.free H.out.1 H.out.2.2.1).turned hT hE (H6.out.1.lt H.out.1); have H7 := Lib.hid (And.intro hT (And.intro hE (And.intro hl4 (And.intro he4 (And.intro hq4 hf4))))); clear hT hE hl4 he4 hq4 hf4) | ((with_reducible refine (Elm_Set q 4 w1.heap.size 0 (0 - r) w7 H7.out.2.2.2.2.1 H7.out.2.2.1 (H7.out.2.2.2.2.2.sub (by decide) (by decide)) H7.out.2.2.2.1).mono ?_); rintro e w8 ⟨rfl, hT, hE⟩; have H8 := Lib.hid (And.intro hT (And.intro hE (And.intro (hT.lt H7.out.2.2.2.2.1) (H7.out.2.2.2.2.2.turned hT hE H7.out.2.2.2.2.1)))); clear hT hE)) | (go_at_call 86; go_must (refine (Elm_One q 8 w8 H8.out.2.2.1 (H8.out.2.2.2.sub (by decide) (by decide))).mono ?_); rintro e w9 ⟨rfl, hT, hE⟩; have H9 := Lib.hid (And.intro hT hE); clear hT hE))
    have l8 := H8.out.2.2.1
    have l7 := H7.out.2.2.2.2.1
    have hT : Turned q 0 12 w w9 := ((((Turned.refl q 0 12 w).ext_on H.out.1 H6.out.1).trans (H7.out.1.part (by decide) (by decide))).trans (H8.out.1.part (by decide) (by decide))).trans (H9.out.1.part (by decide) (by decide))
    have hp : Pnt w9 q 0 x (0 - r) 1 := ⟨(H7.out.2.1.far H8.out.1 l7 (.inr (by decide))).far H9.out.1 l8 (.inr (by decide)), H8.out.2.1.far H9.out.1 l8 (.inr (by decide)), H9.out.2⟩
    exact bodyPost_ret (v := .tuple #[.pointer (some ⟨q, 0, none⟩), .nilIface]) (by simp [results, Try.results58, go_sem]) rfl ⟨rfl, hT, x, (0 - r), 1, hp, ok_one x (0 - r) HO.out, aff_one x (0 - r)⟩
set_option maxHeartbeats 1000000 in
set_option maxRecDepth 100000 in
theorem SB_comp12 (q c k : Nat) (w : World) (hq : q < w.heap.size) (hc : c < w.heap.size) (hf : Free w q 0 12) (x : Fp) (r : Fp) (lv : Int) (hl : (Bx r)[31]? = some lv) (ha : bits BinOp.and IntKind.u8 lv 1 = 1) (h0 : w.cell? ⟨c, 0, none⟩ = some (.int .u8 2)) (hx : Held .u8 w c 1 (bds 32 (x.val : Int)).reverse) (hr : (fpow (x * x * x - (x + x + x) + cB) ((pN + 1) / 4)) * (fpow (x * x * x - (x + x + x) + cB) ((pN + 1) / 4)) = (x * x * x - (x + x + x) + cB)) (hre : (fpow (x * x * x - (x + x + x) + cB) ((pN + 1) / 4)) = r) (ho : Onc x (0 - r)) (hk : 33 ≤ k) : Calls Try.prog 58 #[.pointer (some ⟨q, 0, none⟩), .slice (some ⟨c, 0, none⟩) 33 k] w fun e w' => e = .returned (.tuple #[.pointer (some ⟨q, 0, none⟩), .nilIface]) ∧ Turned q 0 12 w w' ∧ Hp w' q 0 (.aff x (0 - r)) := by
  have k1 : ¬ k = 1 := by omega
  have k33 : ¬ (k : Int) < 33 := by omega
  have k33' : (33 : Int) ≤ k := by omega
  have k65 : ¬ (k : Int) < 33 := by omega
  have k65' : (33 : Int) ≤ k := by omega
  clear hk
  have H := Lib.hid (And.intro hq (And.intro hc (And.intro hf hx)))
  clear hq hc hf hx
  have HR := Lib.hid (And.intro hr hre)
  have HO := Lib.hid ho
  clear hr hre ho
  go_enter Try.func58, Try.ntmps58
  go_wp2_with (first | (go_at_call 83; ((with_reducible refine (SetB_any x w.heap.size 0 c 1 _ (w.alloc (.cells #[.int .u64 0, .int .u64 0, .int .u64 0, .int .u64 0] 111)) (by simp [size_alloc]) (size_al H.out.2.1 _) (Free.newWords (cs := #[.int .u64 0, .int .u64 0, .int .u64 0, .int .u64 0]) rfl rfl) (Held.alloc H.out.2.2.2 H.out.2.1 _)).mono ?_); rintro e w1 ⟨rfl, hT, hE⟩; have hE1 : Ext w w1 := Turned.ext_of_new (Ext.al w _) hT (Nat.le_refl _); have hl1 : w.heap.size < w1.heap.size := hT.lt (by simp [size_alloc]); have H1 := Lib.hid (And.intro hE1 (And.intro hl1 hE)); clear hT hE hE1 hl1)) | (go_at_call 87; go_must (refine (Poly_any w1.heap.size 0 w.heap.size 0 x (w1.alloc (.cells #[.int .u64 0, .int .u64 0, .int .u64 0, .int .u64 0] 111)) (by simp [size_alloc]) (size_al H1.out.2.1 _) (Free.newWords (cs := #[.int .u64 0, .int .u64 0, .int .u64 0, .int .u64 0]) rfl rfl) (H1.out.2.2.alloc H1.out.2.1 _) (apart0_ne (Nat.ne_of_lt H1.out.2.1))).mono ?_); rintro e w2 ⟨rfl, hT, hE⟩; have hE2 : Ext w w2 := H1.out.1.trans (Turned.ext_of_new (Ext.al w1 _) hT (Nat.le_refl _)); have hl2 : w1.heap.size < w2.heap.size := hT.lt (by simp [size_alloc]); have he0 : Elt w2 w.heap.size 0 x := (H1.out.2.2.alloc H1.out.2.1 _).far hT (size_al H1.out.2.1 _) (.inl (Nat.ne_of_lt H1.out.2.1)); have hf2 : Free w2 w1.heap.size 0 4 := Free.turned (Free.newWords (cs := #[.int .u64 0, .int .u64 0, .int .u64 0, .int .u64 0]) rfl rfl) hT hE (by simp [size_alloc]); have H2 := Lib.hid (And.intro hE2 (And.intro (Nat.lt_trans H1.out.2.1 hl2) (And.intro hl2 (And.intro he0 (And.intro hE hf2))))); clear hT hE hE2 hl2 he0 hf2) | (go_at_call 88; go_must (refine (Sqrt_yes w1.heap.size 0 w1.heap.size 0 (x * x * x - (x + x + x) + cB) w2 H2.out.2.2.1 H2.out.2.2.1 H2.out.2.2.2.2.2 H2.out.2.2.2.2.1 HR.out.1).mono ?_); rintro e w3 ⟨rfl, hT, hE⟩; have hE3 : Ext w w3 := Turned.ext_of_new H2.out.1 hT (Nat.le_of_lt H1.out.2.1); have he0 : Elt w3 w.heap.size 0 x := H2.out.2.2.2.1.far hT H2.out.2.1 (.inl (Nat.ne_of_lt H1.out.2.1)); have hf3 := H2.out.2.2.2.2.2.turned hT hE H2.out.2.2.1; rw [HR.out.2] at hE; have H3 := Lib.hid (And.intro hE3 (And.intro (hT.lt H2.out.2.1) (And.intro (hT.lt H2.out.2.2.1) (And.intro he0 (And.intro hE hf3))))); clear hT hE hE3 he0 hf3) | (go_at_call 90; go_must (refine (Elm_Sub w3.heap.size 0 w3.heap.size 0 w1.heap.size 0 0 r (w3.alloc (.cells #[.int .u64 0, .int .u64 0, .int .u64 0, .int .u64 0] 111)) (by simp [size_alloc]) (by simp [size_alloc]) (size_al H3.out.2.2.1 _) (Free.newWords (cs := #[.int .u64 0, .int .u64 0, .int .u64 0, .int .u64 0]) rfl rfl) (Elt.zero (len := 4) _ (heap_at w3 _ _ rfl) (by decide)) (H3.out.2.2.2.2.1.alloc H3.out.2.2.1 _)).mono ?_); rintro e w4 ⟨rfl, hT, hE⟩; have hE4 : Ext w3 w4 := Turned.ext_of_new (Ext.al w3 _) hT (Nat.le_refl _); have H4 := Lib.hid (And.intro (H3.out.1.trans hE4) (And.intro (hE4.lt H3.out.2.1) (And.intro (hE4.lt H3.out.2.2.1) (And.intro (hE4.elt H3.out.2.1 H3.out.2.2.2.1) (And.intro (hE4.elt H3.out.2.2.1 H3.out.2.2.2.2.1) (And.intro (hE4.free H3.out.2.2.1 H3.out.2.2.2.2.2) (And.intro (show w3.heap.size < w4.heap.size from hT.lt (by simp [size_alloc])) hE))))))); clear hT hE hE4))
  have q4 : w4.cell? ⟨c, 0, none⟩ = some (.int .u8 2) := cell_ext' H4.out.1 h0
  have q4' : w4.drew.cell? ⟨c, 0, none⟩ = some (.int .u8 2) := q4
  have hd1 : w1.heap.size < w4.drew.heap.size := H4.out.2.2.1
  have hd2 : Elt w4.drew w1.heap.size 0 r := H4.out.2.2.2.2.1
  have HD := Lib.hid (And.intro hd1 hd2)
  have HL := Lib.hid (show (bds 32 (r.val : Int)).reverse[31]? = some lv from hl)
  have hv : bits BinOp.and IntKind.u8 2 1 = 0 := by decide +kernel
  have hxo : bits BinOp.xor IntKind.u8 1 0 = 1 := by decide +kernel
  clear hd1 hd2 hl
  go_region_with ((go_at_call 91; ((with_reducible refine (Bytes_any w1.heap.size 0 r w4.drew HD.out.1 HD.out.2).mono ?_); rintro e w5 ⟨rfl, hE, hs, hB⟩; have q5 := cell_ext' hE q4'; have q6 : w5.cell? ⟨w4.heap.size, 31, none⟩ = some (.int .u8 lv) := (by have := hB 31 lv HL.out; simpa using this); have H5 := Lib.hid (Ext.of_drew hE); clear hE hs hB)))
  all_goals
    go_wp2_with (first | (go_at_call 92; go_must (refine (Elm_Select1 w1.heap.size 0 w3.heap.size 0 w1.heap.size 0 (0 - r) r w5 (H5.out.lt H4.out.2.2.1) (H5.out.lt H4.out.2.2.2.2.2.2.1) (H5.out.lt H4.out.2.2.1) (H5.out.free H4.out.2.2.1 H4.out.2.2.2.2.2.1) (H5.out.elt H4.out.2.2.2.2.2.2.1 H4.out.2.2.2.2.2.2.2) (H5.out.elt H4.out.2.2.1 H4.out.2.2.2.2.1)).mono ?_); rintro e w6 ⟨rfl, hT, hE⟩; have hE6 : Ext w w6 := Turned.ext_of_new (H4.out.1.trans H5.out) hT (Nat.le_of_lt H1.out.2.1); have he6 : Elt w6 w.heap.size 0 x := (H5.out.elt H4.out.2.1 H4.out.2.2.2.1).far hT (H5.out.lt H4.out.2.1) (.inl (Nat.ne_of_lt H1.out.2.1)); have H6 := Lib.hid (And.intro hE6 (And.intro (hT.lt (H5.out.lt H4.out.2.1)) (And.intro (hT.lt (H5.out.lt H4.out.2.2.1)) (And.intro he6 hE)))); clear hT hE hE6 he6) | (go_at_call 85; first | ((with_reducible refine (Elm_Set q 0 w.heap.size 0 x w6 (H6.out.1.lt H.out.1) H6.out.2.1 ((H6.out.1.free H.out.1 H.out.2.2.1).sub (by decide) (by decide)) H6.out.2.2.2.1).mono ?_); rintro e w7 ⟨rfl, hT, hE⟩; have hl4 : w1.heap.size < w7.heap.size := hT.lt H6.out.2.2.1; have he4 : Elt w7 w1.heap.size 0 (0 - r) := H6.out.2.2.2.2.far hT H6.out.2.2.1 (.inl (by have := H1.out.1.lt H.out.1; omega)); have hq4 : q < w7.heap.size := hT.lt (H6.out.1.lt H.out.1); have hf4 := (H6.out.1.free H.out.1 H.out.2.2.1).turned hT hE (H6.out.1.lt H.out.1); have H7 := Lib.hid (And.intro hT (And.intro hE (And.intro hl4 (And.intro he4 (And.intro hq4 hf4))))); clear hT hE hl4 he4 hq4 hf4) | ((with_reducible refine (Elm_Set q 4 w1.heap.size 0 (0 - r) w7 H7.out.2.2.2.2.1 H7.out.2.2.1 (H7.out.2.2.2.2.2.sub (by decide) (by decide)) H7.out.2.2.2.1).mono ?_); rintro e w8 ⟨rfl, hT, hE⟩; have H8 := Lib.hid (And.intro hT (And.intro hE (And.intro (hT.lt H7.out.2.2.2.2.1) (H7.out.2.2.2.2.2.turned hT hE H7.out.2.2.2.2.1)))); clear hT hE)) | (go_at_call 86; go_must (refine (Elm_One q 8 w8 H8.out.2.2.1 (H8.out.2.2.2.sub (by decide) (by decide))).mono ?_); rintro e w9 ⟨rfl, hT, hE⟩; have H9 := Lib.hid (And.intro hT hE); clear hT hE))
    have l8 := H8.out.2.2.1
    have l7 := H7.out.2.2.2.2.1
    have hT : Turned q 0 12 w w9 := ((((Turned.refl q 0 12 w).ext_on H.out.1 H6.out.1).trans (H7.out.1.part (by decide) (by decide))).trans (H8.out.1.part (by decide) (by decide))).trans (H9.out.1.part (by decide) (by decide))
    have hp : Pnt w9 q 0 x (0 - r) 1 := ⟨(H7.out.2.1.far H8.out.1 l7 (.inr (by decide))).far H9.out.1 l8 (.inr (by decide)), H8.out.2.1.far H9.out.1 l8 (.inr (by decide)), H9.out.2⟩
    exact bodyPost_ret (v := .tuple #[.pointer (some ⟨q, 0, none⟩), .nilIface]) (by simp [results, Try.results58, go_sem]) rfl ⟨rfl, hT, x, (0 - r), 1, hp, ok_one x (0 - r) HO.out, aff_one x (0 - r)⟩
set_option maxHeartbeats 1000000 in
set_option maxRecDepth 100000 in
theorem SB_comp13 (q c k : Nat) (w : World) (hq : q < w.heap.size) (hc : c < w.heap.size) (hf : Free w q 0 12) (x : Fp) (r : Fp) (lv : Int) (hl : (Bx r)[31]? = some lv) (ha : bits BinOp.and IntKind.u8 lv 1 = 1) (h0 : w.cell? ⟨c, 0, none⟩ = some (.int .u8 3)) (hx : Held .u8 w c 1 (bds 32 (x.val : Int)).reverse) (hr : (fpow (x * x * x - (x + x + x) + cB) ((pN + 1) / 4)) * (fpow (x * x * x - (x + x + x) + cB) ((pN + 1) / 4)) = (x * x * x - (x + x + x) + cB)) (hre : (fpow (x * x * x - (x + x + x) + cB) ((pN + 1) / 4)) = r) (ho : Onc x r) (hk : 33 ≤ k) : Calls Try.prog 58 #[.pointer (some ⟨q, 0, none⟩), .slice (some ⟨c, 0, none⟩) 33 k] w fun e w' => e = .returned (.tuple #[.pointer (some ⟨q, 0, none⟩), .nilIface]) ∧ Turned q 0 12 w w' ∧ Hp w' q 0 (.aff x r) := by
  have k1 : ¬ k = 1 := by omega
  have k33 : ¬ (k : Int) < 33 := by omega
  have k33' : (33 : Int) ≤ k := by omega
  have k65 : ¬ (k : Int) < 33 := by omega
  have k65' : (33 : Int) ≤ k := by omega
  clear hk
  have H := Lib.hid (And.intro hq (And.intro hc (And.intro hf hx)))
  clear hq hc hf hx
  have HR := Lib.hid (And.intro hr hre)
  have HO := Lib.hid ho
  clear hr hre ho
  go_enter Try.func58, Try.ntmps58
  go_wp2_with (first | (go_at_call 83; ((with_reducible refine (SetB_any x w.heap.size 0 c 1 _ (w.alloc (.cells #[.int .u64 0, .int .u64 0, .int .u64 0, .int .u64 0] 111)) (by simp [size_alloc]) (size_al H.out.2.1 _) (Free.newWords (cs := #[.int .u64 0, .int .u64 0, .int .u64 0, .int .u64 0]) rfl rfl) (Held.alloc H.out.2.2.2 H.out.2.1 _)).mono ?_); rintro e w1 ⟨rfl, hT, hE⟩; have hE1 : Ext w w1 := Turned.ext_of_new (Ext.al w _) hT (Nat.le_refl _); have hl1 : w.heap.size < w1.heap.size := hT.lt (by simp [size_alloc]); have H1 := Lib.hid (And.intro hE1 (And.intro hl1 hE)); clear hT hE hE1 hl1)) | (go_at_call 87; go_must (refine (Poly_any w1.heap.size 0 w.heap.size 0 x (w1.alloc (.cells #[.int .u64 0, .int .u64 0, .int .u64 0, .int .u64 0] 111)) (by simp [size_alloc]) (size_al H1.out.2.1 _) (Free.newWords (cs := #[.int .u64 0, .int .u64 0, .int .u64 0, .int .u64 0]) rfl rfl) (H1.out.2.2.alloc H1.out.2.1 _) (apart0_ne (Nat.ne_of_lt H1.out.2.1))).mono ?_); rintro e w2 ⟨rfl, hT, hE⟩; have hE2 : Ext w w2 := H1.out.1.trans (Turned.ext_of_new (Ext.al w1 _) hT (Nat.le_refl _)); have hl2 : w1.heap.size < w2.heap.size := hT.lt (by simp [size_alloc]); have he0 : Elt w2 w.heap.size 0 x := (H1.out.2.2.alloc H1.out.2.1 _).far hT (size_al H1.out.2.1 _) (.inl (Nat.ne_of_lt H1.out.2.1)); have hf2 : Free w2 w1.heap.size 0 4 := Free.turned (Free.newWords (cs := #[.int .u64 0, .int .u64 0, .int .u64 0, .int .u64 0]) rfl rfl) hT hE (by simp [size_alloc]); have H2 := Lib.hid (And.intro hE2 (And.intro (Nat.lt_trans H1.out.2.1 hl2) (And.intro hl2 (And.intro he0 (And.intro hE hf2))))); clear hT hE hE2 hl2 he0 hf2) | (go_at_call 88; go_must (refine (Sqrt_yes w1.heap.size 0 w1.heap.size 0 (x * x * x - (x + x + x) + cB) w2 H2.out.2.2.1 H2.out.2.2.1 H2.out.2.2.2.2.2 H2.out.2.2.2.2.1 HR.out.1).mono ?_); rintro e w3 ⟨rfl, hT, hE⟩; have hE3 : Ext w w3 := Turned.ext_of_new H2.out.1 hT (Nat.le_of_lt H1.out.2.1); have he0 : Elt w3 w.heap.size 0 x := H2.out.2.2.2.1.far hT H2.out.2.1 (.inl (Nat.ne_of_lt H1.out.2.1)); have hf3 := H2.out.2.2.2.2.2.turned hT hE H2.out.2.2.1; rw [HR.out.2] at hE; have H3 := Lib.hid (And.intro hE3 (And.intro (hT.lt H2.out.2.1) (And.intro (hT.lt H2.out.2.2.1) (And.intro he0 (And.intro hE hf3))))); clear hT hE hE3 he0 hf3) | (go_at_call 90; go_must (refine (Elm_Sub w3.heap.size 0 w3.heap.size 0 w1.heap.size 0 0 r (w3.alloc (.cells #[.int .u64 0, .int .u64 0, .int .u64 0, .int .u64 0] 111)) (by simp [size_alloc]) (by simp [size_alloc]) (size_al H3.out.2.2.1 _) (Free.newWords (cs := #[.int .u64 0, .int .u64 0, .int .u64 0, .int .u64 0]) rfl rfl) (Elt.zero (len := 4) _ (heap_at w3 _ _ rfl) (by decide)) (H3.out.2.2.2.2.1.alloc H3.out.2.2.1 _)).mono ?_); rintro e w4 ⟨rfl, hT, hE⟩; have hE4 : Ext w3 w4 := Turned.ext_of_new (Ext.al w3 _) hT (Nat.le_refl _); have H4 := Lib.hid (And.intro (H3.out.1.trans hE4) (And.intro (hE4.lt H3.out.2.1) (And.intro (hE4.lt H3.out.2.2.1) (And.intro (hE4.elt H3.out.2.1 H3.out.2.2.2.1) (And.intro (hE4.elt H3.out.2.2.1 H3.out.2.2.2.2.1) (And.intro (hE4.free H3.out.2.2.1 H3.out.2.2.2.2.2) (And.intro (show w3.heap.size < w4.heap.size from hT.lt (by simp [size_alloc])) hE))))))); clear hT hE hE4))
  have q4 : w4.cell? ⟨c, 0, none⟩ = some (.int .u8 3) := cell_ext' H4.out.1 h0
  have q4' : w4.drew.cell? ⟨c, 0, none⟩ = some (.int .u8 3) := q4
  have hd1 : w1.heap.size < w4.drew.heap.size := H4.out.2.2.1
  have hd2 : Elt w4.drew w1.heap.size 0 r := H4.out.2.2.2.2.1
  have HD := Lib.hid (And.intro hd1 hd2)
  have HL := Lib.hid (show (bds 32 (r.val : Int)).reverse[31]? = some lv from hl)
  have hv : bits BinOp.and IntKind.u8 3 1 = 1 := by decide +kernel
  have hxo : bits BinOp.xor IntKind.u8 1 1 = 0 := by decide +kernel
  clear hd1 hd2 hl
  go_region_with ((go_at_call 91; ((with_reducible refine (Bytes_any w1.heap.size 0 r w4.drew HD.out.1 HD.out.2).mono ?_); rintro e w5 ⟨rfl, hE, hs, hB⟩; have q5 := cell_ext' hE q4'; have q6 : w5.cell? ⟨w4.heap.size, 31, none⟩ = some (.int .u8 lv) := (by have := hB 31 lv HL.out; simpa using this); have H5 := Lib.hid (Ext.of_drew hE); clear hE hs hB)))
  all_goals
    go_wp2_with (first | (go_at_call 92; go_must (refine (Elm_Select0 w1.heap.size 0 w3.heap.size 0 w1.heap.size 0 (0 - r) r w5 (H5.out.lt H4.out.2.2.1) (H5.out.lt H4.out.2.2.2.2.2.2.1) (H5.out.lt H4.out.2.2.1) (H5.out.free H4.out.2.2.1 H4.out.2.2.2.2.2.1) (H5.out.elt H4.out.2.2.2.2.2.2.1 H4.out.2.2.2.2.2.2.2) (H5.out.elt H4.out.2.2.1 H4.out.2.2.2.2.1)).mono ?_); rintro e w6 ⟨rfl, hT, hE⟩; have hE6 : Ext w w6 := Turned.ext_of_new (H4.out.1.trans H5.out) hT (Nat.le_of_lt H1.out.2.1); have he6 : Elt w6 w.heap.size 0 x := (H5.out.elt H4.out.2.1 H4.out.2.2.2.1).far hT (H5.out.lt H4.out.2.1) (.inl (Nat.ne_of_lt H1.out.2.1)); have H6 := Lib.hid (And.intro hE6 (And.intro (hT.lt (H5.out.lt H4.out.2.1)) (And.intro (hT.lt (H5.out.lt H4.out.2.2.1)) (And.intro he6 hE)))); clear hT hE hE6 he6) | (go_at_call 85; first | ((with_reducible refine (Elm_Set q 0 w.heap.size 0 x w6 (H6.out.1.lt H.out.1) H6.out.2.1 ((H6.out.1.free H.out.1 H.out.2.2.1).sub (by decide) (by decide)) H6.out.2.2.2.1).mono ?_); rintro e w7 ⟨rfl, hT, hE⟩; have hl4 : w1.heap.size < w7.heap.size := hT.lt H6.out.2.2.1; have he4 : Elt w7 w1.heap.size 0 r := H6.out.2.2.2.2.far hT H6.out.2.2.1 (.inl (by have := H1.out.1.lt H.out.1; omega)); have hq4 : q < w7.heap.size := hT.lt (H6.out.1.lt H.out.1); have hf4 := (H6.out.1.free H.out.1 H.out.2.2.1).turned hT hE (H6.out.1.lt H.out.1); have H7 := Lib.hid (And.intro hT (And.intro hE (And.intro hl4 (And.intro he4 (And.intro hq4 hf4))))); clear hT hE hl4 he4 hq4 hf4) | ((with_reducible refine (Elm_Set q 4 w1.heap.size 0 r w7 H7.out.2.2.2.2.1 H7.out.2.2.1 (H7.out.2.2.2.2.2.sub (by decide) (by decide)) H7.out.2.2.2.1).mono ?_); rintro e w8 ⟨rfl, hT, hE⟩; have H8 := Lib.hid (And.intro hT (And.intro hE (And.intro (hT.lt H7.out.2.2.2.2.1) (H7.out.2.2.2.2.2.turned hT hE H7.out.2.2.2.2.1)))); clear hT hE)) | (go_at_call 86; go_must (refine (Elm_One q 8 w8 H8.out.2.2.1 (H8.out.2.2.2.sub (by decide) (by decide))).mono ?_); rintro e w9 ⟨rfl, hT, hE⟩; have H9 := Lib.hid (And.intro hT hE); clear hT hE))
    have l8 := H8.out.2.2.1
    have l7 := H7.out.2.2.2.2.1
    have hT : Turned q 0 12 w w9 := ((((Turned.refl q 0 12 w).ext_on H.out.1 H6.out.1).trans (H7.out.1.part (by decide) (by decide))).trans (H8.out.1.part (by decide) (by decide))).trans (H9.out.1.part (by decide) (by decide))
    have hp : Pnt w9 q 0 x r 1 := ⟨(H7.out.2.1.far H8.out.1 l7 (.inr (by decide))).far H9.out.1 l8 (.inr (by decide)), H8.out.2.1.far H9.out.1 l8 (.inr (by decide)), H9.out.2⟩
    exact bodyPost_ret (v := .tuple #[.pointer (some ⟨q, 0, none⟩), .nilIface]) (by simp [results, Try.results58, go_sem]) rfl ⟨rfl, hT, x, r, 1, hp, ok_one x r HO.out, aff_one x r⟩
end Go.Proofs.Ytmepgkcijeobkaa
