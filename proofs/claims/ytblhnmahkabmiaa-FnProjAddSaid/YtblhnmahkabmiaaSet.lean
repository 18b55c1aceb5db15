/-
  What is proved here: how an element is read from bytes.
  Conditions: those of each theorem.
-/
import Derived.Test.YtblhnmahkabmiaaProg
import Derived.Test.YtblhnmahkabmiaaByu
import Derived.WalkKit
import Derived.WalkSpells
import Derived.Outline
import Derived.Handy
import Derived.ProofKit
import Derived.Deep.QuietTactic
import Derived.BigQuiet
import Derived.Lib.Hide
import Derived.OpenShut
namespace Go.Proofs.Ytblhnmahkabmiaa
open Go Go.RowKit Ecp
set_option linter.unusedSimpArgs false
set_option linter.unusedVariables false

theorem Turned.ext_on {b o len : Nat} {u v : World} (h : Turned b o len u u) (hb : b < u.heap.size) (hE : Ext u v) : Turned b o len u v := Ext.turned h hb hE
theorem zero_sub_one : ((0 - 1 : Fp).val : Int) = pI - 1 := by decide +kernel
theorem be_rev {A : Int} (h0 : 0 ≤ A) (h1 : A < R256) : be (bds 32 A).reverse = A := by
  unfold be; rw [List.reverse_reverse, bal_B32 h0 h1]
theorem minus_one : be (bds 32 ((0 - 1 : Fp).val : Int)).reverse = pI - 1 := by rw [zero_sub_one]; exact be_rev (by decide) (by decide +kernel)
theorem bds_be (l : List Int) (hl : l.length = 32) (h : ∀ x ∈ l, 0 ≤ x ∧ x < 256) : bds 32 (be l) = l.reverse := by
  unfold be
  have := bds_bal l.reverse (fun x hx => h x (List.mem_reverse.1 hx))
  rw [List.length_reverse, hl] at this
  exact this

set_option maxHeartbeats 4000000 in
set_option maxRecDepth 100000 in
theorem SetBytes_pre (b o c p cap : Nat) (l : List Int) (hl : l.length = 32) (hbd : ∀ x ∈ l, 0 ≤ x ∧ x < 256) (hlt : be l < pI) (w : World) (hb : b < w.heap.size) (hc : c < w.heap.size) (hf : Free w b o 4) (h : Held .u8 w c p l) :
    Calls Try.prog 40 #[.pointer (some ⟨b, o, none⟩), .slice (some ⟨c, p, none⟩) 32 cap] w fun e w' => e = .returned (.tuple #[.pointer (some ⟨b, o, none⟩), .nilIface]) ∧ Turned b o 4 w w' ∧ Elt w' b o (zf (be l)) := by
  have HC : Hid (∀ (w : World) (c p cap c' p' : Nat) (k1 : Held .u8 w c p l) (k2 : Held .u8 w c' p' (bds 32 ((0 - 1 : Fp).val : Int)).reverse), Calls Try.prog 47 #[.slice (some ⟨c, p, none⟩) 32 cap, .slice (some ⟨c', p', none⟩) 32 32] w fun e w' => e = .returned (.int .i64 1) ∧ ∃ n, w' = w.drewN n) := Lib.hid (by
    intro w c p cap c' p' k1 k2
    have := Le_any c p cap c' p' 32 _ _ hl (rev_len _) hbd (rev_bd _) w k1 k2
    rw [minus_one, if_pos (by omega)] at this
    exact this)
  have H := Lib.hid (And.intro hb (And.intro hc (And.intro hf (And.intro h (And.intro hl hbd)))))
  clear hb hc hf h hl hbd hlt
  go_enter Try.func40, Try.ntmps40
  go_wp2_with (first
    | (refine wpList_copy_held rfl _ _ 59 59 rfl 5 Try.underlying59 (by kernel_rfl) w3.heap.size 0 32 32 c p cap l rfl rfl H.out.2.2.2.2.1 (((H4.out.held H.out.2.1 H.out.2.2.2.1).alloc (H4.out.lt H.out.2.1) _)) (Free.newWords rfl rfl) ?_; intro w5 hT hB; have H5 := Lib.hid (And.intro hT hB); clear hT hB)
    | (go_at_call 31; go_must (refine (Elm_One (w.heap.size + 2) 0 _ (by simp [size_alloc] <;> omega) (Free.newWords (by simp [size_alloc] <;> omega) rfl)).mono ?_); rintro e w1 ⟨rfl, hT, hE⟩; have H1 := Lib.hid (And.intro hT hE); clear hT hE)
    | (go_at_call 34; go_must (refine (Elm_Sub w.heap.size 0 (w.heap.size + 1) 0 (w.heap.size + 2) 0 0 1 w1 (H1.out.1.lt (by simp [size_alloc] <;> omega)) (H1.out.1.lt (by simp [size_alloc] <;> omega)) (H1.out.1.lt (by simp [size_alloc] <;> omega)) (Free.far (len' := 4) ((Free.alloc (Free.alloc (Free.newWords (w := w) rfl rfl) (by simp [size_alloc] <;> omega) _) (by simp [size_alloc] <;> omega) _)) H1.out.1 (by simp [size_alloc] <;> omega) (.inl (by omega))) (Elt.far (len := 4) ((Elt.alloc (Elt.zero (len := 4) _ (heap_at _ _ _ (by simp [size_alloc])) (by decide)) (by simp [size_alloc] <;> omega) _)) H1.out.1 (by simp [size_alloc] <;> omega) (.inl (by omega))) H1.out.2).mono ?_); rintro e w2 ⟨rfl, hT, hE⟩; have H2 := Lib.hid (And.intro hT hE); clear hT hE)
    | (go_at_call 41; go_must (refine (Bytes_any w.heap.size 0 (0 - 1) w2 (H2.out.1.lt (H1.out.1.lt (by simp [size_alloc] <;> omega))) H2.out.2).mono ?_); rintro e w3 ⟨rfl, hE, hs, hB⟩; have H3 := Lib.hid (And.intro (Ext.trans (Turned.ext_of_new (Turned.ext_of_new (((Ext.al w _).trans (Ext.al _ _)).trans (Ext.al _ _)) H1.out.1 (by omega)) H2.out.1 (Nat.le_refl _)) hE) (And.intro hs hB)); clear hE hs hB)
    | (go_at_call 47; go_must (refine (HC.out w3 c p cap w2.heap.size 0 (H3.out.1.held H.out.2.1 H.out.2.2.2.1) H3.out.2.2).mono ?_); rintro e w4 ⟨rfl, n4, rfl⟩; have H4 : Hid (Ext w (w3.drewN n4)) := Lib.hid (H3.out.1.trans ⟨⟨[], w3.drawn + n4⟩, by simp [ext, World.drewN]⟩))
    | (go_at_call 48; go_must (refine (Invert_any w3.heap.size 0 32 l H.out.2.2.2.2.1 w5 (H5.out.1.lt (by simp [size_alloc] <;> omega)) (Free.heldFree ((Free.newWords (w := w3) rfl rfl).drewN n4) H5.out.1 H5.out.2 (by rw [H.out.2.2.2.2.1]; exact Nat.le_refl _) (by simp [size_alloc] <;> omega)) H5.out.2).mono ?_); rintro e w6 ⟨rfl, hT, hB⟩; have H6 : Hid (Ext w w6 ∧ w3.heap.size < w6.heap.size ∧ Held .u8 w6 w3.heap.size 0 (bds 32 (be l))) := Lib.hid (And.intro (Turned.ext_of_new (Turned.ext_of_new (H4.out.trans (Ext.al _ _)) H5.out.1 H3.out.1.below.size) hT H3.out.1.below.size) (And.intro (hT.lt (H5.out.1.lt (by simp [size_alloc] <;> omega))) (by rw [bds_be l H.out.2.2.2.2.1 H.out.2.2.2.2.2]; exact hB))); clear hT hB)
    | (go_at_call 49; go_must (refine (p256FromBytes_any w6.heap.size 0 w3.heap.size 0 (be l) (be_bd l H.out.2.2.2.2.1 H.out.2.2.2.2.2).1 (be_bd l H.out.2.2.2.2.1 H.out.2.2.2.2.2).2 _ (by simp [size_alloc] <;> omega) (size_al' H6.out.2.1 _) (Free.newWords rfl rfl) (H6.out.2.2.alloc H6.out.2.1 _)).mono ?_); rintro e w7 ⟨rfl, hT, hB⟩; have H7 : Hid (Ext w w7 ∧ w6.heap.size < w7.heap.size ∧ Held .u64 w7 w6.heap.size 0 (qds 4 (be l))) := Lib.hid (And.intro (Turned.ext_of_new (H6.out.1.trans (Ext.al _ _)) hT H6.out.1.below.size) (And.intro (hT.lt (by simp [size_alloc] <;> omega)) hB)); clear hT hB)
    | (go_at_call 50; go_must (refine (p256ToMontgomery_any b o w6.heap.size 0 (be l) (be_bd l H.out.2.2.2.2.1 H.out.2.2.2.2.2).1 (be_bd l H.out.2.2.2.2.1 H.out.2.2.2.2.2).2 w7 (H7.out.1.lt H.out.1) H7.out.2.1 (H7.out.1.free H.out.1 H.out.2.2.1) H7.out.2.2).mono ?_); rintro e w8 ⟨rfl, hT, hB⟩; have H8 : Hid (Turned b o 4 w w8 ∧ Elt w8 b o (zf (be l))) := Lib.hid (And.intro (((Turned.refl b o 4 w).ext_on H.out.1 H7.out.1).trans hT) hB); clear hT hB))
  refine bodyPost_ret (v := .tuple #[.pointer (some ⟨b, o, none⟩), .nilIface]) (by simp [results, Try.results40, go_sem]) rfl ⟨rfl, H8.out⟩

set_option maxHeartbeats 4000000 in
set_option maxRecDepth 100000 in
theorem SetBytes_bad (b o c p cap : Nat) (l : List Int) (hl : l.length = 32) (hbd : ∀ x ∈ l, 0 ≤ x ∧ x < 256) (hlt : ¬ be l < pI) (w : World) (hb : b < w.heap.size) (hc : c < w.heap.size) (hf : Free w b o 4) (h : Held .u8 w c p l) :
    Calls Try.prog 40 #[.pointer (some ⟨b, o, none⟩), .slice (some ⟨c, p, none⟩) 32 cap] w fun e w' => (∃ t u, e = .returned (.tuple #[.pointer none, .iface t u])) ∧ Ext w w' := by
  have HC : Hid (∀ (w : World) (c p cap c' p' : Nat) (k1 : Held .u8 w c p l) (k2 : Held .u8 w c' p' (bds 32 ((0 - 1 : Fp).val : Int)).reverse), Calls Try.prog 47 #[.slice (some ⟨c, p, none⟩) 32 cap, .slice (some ⟨c', p', none⟩) 32 32] w fun e w' => e = .returned (.int .i64 0) ∧ ∃ n, w' = w.drewN n) := Lib.hid (by
    intro w c p cap c' p' k1 k2
    have := Le_any c p cap c' p' 32 _ _ hl (rev_len _) hbd (rev_bd _) w k1 k2
    rw [minus_one, if_neg (by omega)] at this
    exact this)
  have H := Lib.hid (And.intro hb (And.intro hc (And.intro hf (And.intro h (And.intro hl hbd)))))
  clear hb hc hf h hl hbd hlt
  go_enter Try.func40, Try.ntmps40
  go_wp2_with (first
    | (go_at_call 31; go_must (refine (Elm_One (w.heap.size + 2) 0 _ (by simp [size_alloc] <;> omega) (Free.newWords (by simp [size_alloc] <;> omega) rfl)).mono ?_); rintro e w1 ⟨rfl, hT, hE⟩; have H1 := Lib.hid (And.intro hT hE); clear hT hE)
    | (go_at_call 34; go_must (refine (Elm_Sub w.heap.size 0 (w.heap.size + 1) 0 (w.heap.size + 2) 0 0 1 w1 (H1.out.1.lt (by simp [size_alloc] <;> omega)) (H1.out.1.lt (by simp [size_alloc] <;> omega)) (H1.out.1.lt (by simp [size_alloc] <;> omega)) (Free.far (len' := 4) ((Free.alloc (Free.alloc (Free.newWords (w := w) rfl rfl) (by simp [size_alloc] <;> omega) _) (by simp [size_alloc] <;> omega) _)) H1.out.1 (by simp [size_alloc] <;> omega) (.inl (by omega))) (Elt.far (len := 4) ((Elt.alloc (Elt.zero (len := 4) _ (heap_at _ _ _ (by simp [size_alloc])) (by decide)) (by simp [size_alloc] <;> omega) _)) H1.out.1 (by simp [size_alloc] <;> omega) (.inl (by omega))) H1.out.2).mono ?_); rintro e w2 ⟨rfl, hT, hE⟩; have H2 := Lib.hid (And.intro hT hE); clear hT hE)
    | (go_at_call 41; go_must (refine (Bytes_any w.heap.size 0 (0 - 1) w2 (H2.out.1.lt (H1.out.1.lt (by simp [size_alloc] <;> omega))) H2.out.2).mono ?_); rintro e w3 ⟨rfl, hE, hs, hB⟩; have H3 := Lib.hid (And.intro (Ext.trans (Turned.ext_of_new (Turned.ext_of_new (((Ext.al w _).trans (Ext.al _ _)).trans (Ext.al _ _)) H1.out.1 (by omega)) H2.out.1 (Nat.le_refl _)) hE) (And.intro hs hB)); clear hE hs hB)
    | (go_at_call 47; go_must (refine (HC.out w3 c p cap w2.heap.size 0 (H3.out.1.held H.out.2.1 H.out.2.2.2.1) H3.out.2.2).mono ?_); rintro e w4 ⟨rfl, n4, rfl⟩; have H4 : Hid (Ext w (w3.drewN n4)) := Lib.hid (H3.out.1.trans ⟨⟨[], w3.drawn + n4⟩, by simp [ext, World.drewN]⟩))
    | (go_at_call 46; go_must (refine (errorsNew_any _ _).mono ?_); rintro e w5 ⟨⟨t, u, rfl⟩, hE⟩; have H5 := Lib.hid hE; clear hE))
  refine bodyPost_ret (v := .tuple #[.pointer none, .iface t u]) (by simp [results, Try.results40, go_sem]) rfl ⟨⟨t, u, rfl⟩, H4.out.trans H5.out⟩

def bB : List Int := [90, 198, 53, 216, 170, 58, 147, 231, 179, 235, 189, 85, 118, 152, 134, 188, 101, 29, 6, 176, 204, 83, 176, 246, 59, 206, 60, 62, 39, 210, 96, 75]
theorem b_bytes : be bB = (cB.val : Int) := by decide +kernel
theorem bB_bd : ∀ x ∈ bB, 0 ≤ x ∧ x < 256 := by decide +kernel
theorem Held.row {k : IntKind} {w : World} {b : Nat} {l : List Int} (t : TypeId) (fr : Nat × Nat) (h : w.heap[b]? = some (.cells (l.map (Value.int k)).toArray t fr)) : Held k w b 0 l := by
  intro i x hi
  simp [World.cell?, h, hi]
set_option maxHeartbeats 4000000 in
set_option maxRecDepth 100000 in
theorem p256B_any (w : World) : Calls Try.prog 35 #[] w fun e w' => ∃ b, e = .returned (.pointer (some ⟨b, 0, none⟩)) ∧ w.heap.size ≤ b ∧ b < w'.heap.size ∧ Ext w w' ∧ Free w' b 0 4 ∧ Elt w' b 0 cB := by
  go_enter Try.func35, Try.ntmps35
  go_wp2_with (go_at_call 40; go_must (refine (SetBytes_pre w.heap.size 0 (w.heap.size + 1) 0 32 bB rfl bB_bd (by rw [b_bytes]; decide +kernel) _ (by simp [size_alloc] <;> omega) (by simp [size_alloc] <;> omega) (Free.alloc (Free.newWords rfl rfl) (by simp [size_alloc] <;> omega) _) (Held.row (l := bB) _ _ (heap_at _ _ _ (by simp [size_alloc])))).mono ?_); rintro e w1 ⟨rfl, hT, hE⟩; have H1 := Lib.hid (And.intro hT hE); clear hT hE)
  refine bodyPost_ret (v := .pointer (some ⟨w.heap.size, 0, none⟩)) (by simp [results, Try.results35, go_sem]) rfl ⟨w.heap.size, rfl, Nat.le_refl _, H1.out.1.lt (by simp [size_alloc] <;> omega), Turned.ext_of_new ((Ext.al w _).trans (Ext.al _ _)) H1.out.1 (Nat.le_refl _), Free.turned (Free.alloc (Free.newWords rfl rfl) (by simp [size_alloc] <;> omega) _) H1.out.1 H1.out.2 (by simp [size_alloc] <;> omega), ?_⟩
  have h := H1.out.2
  rw [b_bytes, zf_nat] at h
  exact h
end Go.Proofs.Ytblhnmahkabmiaa
