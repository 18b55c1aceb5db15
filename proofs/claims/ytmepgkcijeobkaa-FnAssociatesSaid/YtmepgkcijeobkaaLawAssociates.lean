/-
  What FnAssociates says: a sum of three points does not depend on which two are added first.
  Conditions: none.
-/
import Derived.Test.YtmepgkcijeobkaaRows
import Derived.Test.YtmepgkcijeobkaaFin
import Derived.Test.YtmepgkcijeobkaaRdaLaw0Rod
import Derived.Test.YtmepgkcijeobkaaRop
import Derived.Test.YtmepgkcijeobkaaAscAss
import Derived.WalkKit
import Derived.WalkSpells
import Derived.Outline
import Derived.ProofKit
import Derived.OpenShut
namespace Go.Proofs.Ytmepgkcijeobkaa.fnAssociates
open Go Go.ChangeShapes Go.WideShapes Go.ChangeAt Go.RowKit Ecp
set_option linter.unusedSimpArgs false
set_option linter.unusedVariables false

set_option maxHeartbeats 4000000 in
set_option maxRecDepth 100000 in
theorem big0 (a0 : Option Addr) (n0 k0 : Nat) (a1 : Option Addr) (n1 k1 : Nat) (a2 : Option Addr) (n2 k2 : Nat) (hn0 : (2147483647 : Int) < n0) (w : World)  :
    Calls Try.prog 15 #[.slice a0 n0 k0, .slice a1 n1 k1, .slice a2 n2 k2] w fun e w' => e = .returned (.bool true) ∧ Below w.heap.size w w' := by
  go_enter Try.func15, Try.ntmps15
  go_wp2_with (fail)
  refine bodyPost_ret (v := .bool true) (by simp [results, Try.results15, go_sem]) rfl ⟨rfl, Ext.below (by (repeat (exact Ext.refl _)))⟩
set_option maxHeartbeats 4000000 in
set_option maxRecDepth 100000 in
theorem big1 (a0 : Option Addr) (n0 k0 : Nat) (a1 : Option Addr) (n1 k1 : Nat) (a2 : Option Addr) (n2 k2 : Nat) (hn0 : ¬ (2147483647 : Int) < n0) (hn1 : (2147483647 : Int) < n1) (w : World)  :
    Calls Try.prog 15 #[.slice a0 n0 k0, .slice a1 n1 k1, .slice a2 n2 k2] w fun e w' => e = .returned (.bool true) ∧ Below w.heap.size w w' := by
  go_enter Try.func15, Try.ntmps15
  go_wp2_with (fail)
  refine bodyPost_ret (v := .bool true) (by simp [results, Try.results15, go_sem]) rfl ⟨rfl, Ext.below (by (repeat (exact Ext.refl _)))⟩
set_option maxHeartbeats 4000000 in
set_option maxRecDepth 100000 in
theorem big2 (a0 : Option Addr) (n0 k0 : Nat) (a1 : Option Addr) (n1 k1 : Nat) (a2 : Option Addr) (n2 k2 : Nat) (hn0 : ¬ (2147483647 : Int) < n0) (hn1 : ¬ (2147483647 : Int) < n1) (hn2 : (2147483647 : Int) < n2) (w : World)  :
    Calls Try.prog 15 #[.slice a0 n0 k0, .slice a1 n1 k1, .slice a2 n2 k2] w fun e w' => e = .returned (.bool true) ∧ Below w.heap.size w w' := by
  go_enter Try.func15, Try.ntmps15
  go_wp2_with (fail)
  refine bodyPost_ret (v := .bool true) (by simp [results, Try.results15, go_sem]) rfl ⟨rfl, Ext.below (by (repeat (exact Ext.refl _)))⟩
set_option maxHeartbeats 4000000 in
set_option maxRecDepth 100000 in
theorem no0 (a0 : Option Addr) (n0 k0 : Nat) (a1 : Option Addr) (n1 k1 : Nat) (a2 : Option Addr) (n2 k2 : Nat) (f0 : Bool) (X0 Y0 : Int) (hn0 : ¬ (2147483647 : Int) < n0) (hn1 : ¬ (2147483647 : Int) < n1) (hn2 : ¬ (2147483647 : Int) < n2) (w : World) (hR0 : ∀ w1, Ext w w1 → Calls Try.prog 22 #[.slice a0 n0 k0] w1 fun e w2 => e = .returned (.tuple #[.agg (pc f0 X0 Y0), .bool false]) ∧ Ext w1 w2) :
    Calls Try.prog 15 #[.slice a0 n0 k0, .slice a1 n1 k1, .slice a2 n2 k2] w fun e w' => e = .returned (.bool true) ∧ Below w.heap.size w w' := by
  have HR0 := Lib.hid hR0
  clear hR0 
  go_enter Try.func15, Try.ntmps15
  go_wp2_with ((go_at_call 48; ((with_reducible refine (points3_bad0 _ _ a0 n0 k0 f0 X0 Y0 _ (by go_simp) (fun w1 hE => HR0.out w1 (Ext.trans (by (repeat (first | exact Ext.refl _ | refine Ext.trans ?_ (Ext.al _ _)))) hE))).mono ?_); rintro e w' ⟨rfl, g1, rfl⟩)))
  refine bodyPost_ret (v := .bool true) (by simp [results, Try.results15, go_sem]) rfl ⟨rfl, Ext.below (by (repeat (first | exact Ext.refl _ | refine Ext.trans ?_ (Ext.al _ _) | refine Ext.trans ?_ (Ext.gr _ _))))⟩
set_option maxHeartbeats 4000000 in
set_option maxRecDepth 100000 in
theorem no1 (a0 : Option Addr) (n0 k0 : Nat) (a1 : Option Addr) (n1 k1 : Nat) (a2 : Option Addr) (n2 k2 : Nat) (f0 : Bool) (X0 Y0 : Int) (f1 : Bool) (X1 Y1 : Int) (hn0 : ¬ (2147483647 : Int) < n0) (hn1 : ¬ (2147483647 : Int) < n1) (hn2 : ¬ (2147483647 : Int) < n2) (w : World) (hR0 : ∀ w1, Ext w w1 → Calls Try.prog 22 #[.slice a0 n0 k0] w1 fun e w2 => e = .returned (.tuple #[.agg (pc f0 X0 Y0), .bool true]) ∧ Ext w1 w2) (hR1 : ∀ w1, Ext w w1 → Calls Try.prog 22 #[.slice a1 n1 k1] w1 fun e w2 => e = .returned (.tuple #[.agg (pc f1 X1 Y1), .bool false]) ∧ Ext w1 w2) :
    Calls Try.prog 15 #[.slice a0 n0 k0, .slice a1 n1 k1, .slice a2 n2 k2] w fun e w' => e = .returned (.bool true) ∧ Below w.heap.size w w' := by
  have HR0 := Lib.hid hR0
  have HR1 := Lib.hid hR1
  clear hR0 hR1 
  go_enter Try.func15, Try.ntmps15
  go_wp2_with ((go_at_call 48; ((with_reducible refine (points3_bad1 _ _ a0 n0 k0 f0 X0 Y0 a1 n1 k1 f1 X1 Y1 _ (by go_simp) (by go_simp) (fun w1 hE => HR0.out w1 (Ext.trans (by (repeat (first | exact Ext.refl _ | refine Ext.trans ?_ (Ext.al _ _)))) hE)) (fun w1 hE => HR1.out w1 (Ext.trans (by (repeat (first | exact Ext.refl _ | refine Ext.trans ?_ (Ext.al _ _)))) hE))).mono ?_); rintro e w' ⟨rfl, g1, rfl⟩)))
  refine bodyPost_ret (v := .bool true) (by simp [results, Try.results15, go_sem]) rfl ⟨rfl, Ext.below (by (repeat (first | exact Ext.refl _ | refine Ext.trans ?_ (Ext.al _ _) | refine Ext.trans ?_ (Ext.gr _ _))))⟩
set_option maxHeartbeats 4000000 in
set_option maxRecDepth 100000 in
theorem no2 (a0 : Option Addr) (n0 k0 : Nat) (a1 : Option Addr) (n1 k1 : Nat) (a2 : Option Addr) (n2 k2 : Nat) (f0 : Bool) (X0 Y0 : Int) (f1 : Bool) (X1 Y1 : Int) (f2 : Bool) (X2 Y2 : Int) (hn0 : ¬ (2147483647 : Int) < n0) (hn1 : ¬ (2147483647 : Int) < n1) (hn2 : ¬ (2147483647 : Int) < n2) (w : World) (hR0 : ∀ w1, Ext w w1 → Calls Try.prog 22 #[.slice a0 n0 k0] w1 fun e w2 => e = .returned (.tuple #[.agg (pc f0 X0 Y0), .bool true]) ∧ Ext w1 w2) (hR1 : ∀ w1, Ext w w1 → Calls Try.prog 22 #[.slice a1 n1 k1] w1 fun e w2 => e = .returned (.tuple #[.agg (pc f1 X1 Y1), .bool true]) ∧ Ext w1 w2) (hR2 : ∀ w1, Ext w w1 → Calls Try.prog 22 #[.slice a2 n2 k2] w1 fun e w2 => e = .returned (.tuple #[.agg (pc f2 X2 Y2), .bool false]) ∧ Ext w1 w2) :
    Calls Try.prog 15 #[.slice a0 n0 k0, .slice a1 n1 k1, .slice a2 n2 k2] w fun e w' => e = .returned (.bool true) ∧ Below w.heap.size w w' := by
  have HR0 := Lib.hid hR0
  have HR1 := Lib.hid hR1
  have HR2 := Lib.hid hR2
  clear hR0 hR1 hR2 
  go_enter Try.func15, Try.ntmps15
  go_wp2_with ((go_at_call 48; ((with_reducible refine (points3_bad2 _ _ a0 n0 k0 f0 X0 Y0 a1 n1 k1 f1 X1 Y1 a2 n2 k2 f2 X2 Y2 _ (by go_simp) (by go_simp) (by go_simp) (fun w1 hE => HR0.out w1 (Ext.trans (by (repeat (first | exact Ext.refl _ | refine Ext.trans ?_ (Ext.al _ _)))) hE)) (fun w1 hE => HR1.out w1 (Ext.trans (by (repeat (first | exact Ext.refl _ | refine Ext.trans ?_ (Ext.al _ _)))) hE)) (fun w1 hE => HR2.out w1 (Ext.trans (by (repeat (first | exact Ext.refl _ | refine Ext.trans ?_ (Ext.al _ _)))) hE))).mono ?_); rintro e w' ⟨rfl, g1, rfl⟩)))
  refine bodyPost_ret (v := .bool true) (by simp [results, Try.results15, go_sem]) rfl ⟨rfl, Ext.below (by (repeat (first | exact Ext.refl _ | refine Ext.trans ?_ (Ext.al _ _) | refine Ext.trans ?_ (Ext.gr _ _))))⟩
set_option maxHeartbeats 4000000 in
set_option maxRecDepth 100000 in
theorem good (a0 : Option Addr) (n0 k0 : Nat) (a1 : Option Addr) (n1 k1 : Nat) (a2 : Option Addr) (n2 k2 : Nat) (f0 : Bool) (X0 Y0 : Int) (f1 : Bool) (X1 Y1 : Int) (f2 : Bool) (X2 Y2 : Int) (P3 P4 P5 : Pt) (hn0 : ¬ (2147483647 : Int) < n0) (hn1 : ¬ (2147483647 : Int) < n1) (hn2 : ¬ (2147483647 : Int) < n2) (w : World) (hR0 : ∀ w1, Ext w w1 → Calls Try.prog 22 #[.slice a0 n0 k0] w1 fun e w2 => e = .returned (.tuple #[.agg (pc f0 X0 Y0), .bool true]) ∧ Ext w1 w2) (hR1 : ∀ w1, Ext w w1 → Calls Try.prog 22 #[.slice a1 n1 k1] w1 fun e w2 => e = .returned (.tuple #[.agg (pc f1 X1 Y1), .bool true]) ∧ Ext w1 w2) (hR2 : ∀ w1, Ext w w1 → Calls Try.prog 22 #[.slice a2 n2 k2] w1 fun e w2 => e = .returned (.tuple #[.agg (pc f2 X2 Y2), .bool true]) ∧ Ext w1 w2) (hS : ∀  w1, Ext w w1 → Calls Try.prog 50 #[.slice a0 n0 k0, .slice a1 n1 k1] w1 fun e w2 => ∃ g, e = .returned (.slice (some ⟨g, 0, none⟩) (wrL P3).length 65) ∧ Ext w1 w2 ∧ Told w2 g P3) (hT : ∀ x0 w1, Ext w w1 → Told w1 x0 P3 → Calls Try.prog 50 #[.slice (some ⟨x0, 0, none⟩) (wrL P3).length 65, .slice a2 n2 k2] w1 fun e w2 => ∃ g, e = .returned (.slice (some ⟨g, 0, none⟩) (wrL P5).length 65) ∧ Ext w1 w2 ∧ Told w2 g P5) (hU : ∀  w1, Ext w w1 → Calls Try.prog 50 #[.slice a1 n1 k1, .slice a2 n2 k2] w1 fun e w2 => ∃ g, e = .returned (.slice (some ⟨g, 0, none⟩) (wrL P4).length 65) ∧ Ext w1 w2 ∧ Told w2 g P4) (hV : ∀ x0 w1, Ext w w1 → Told w1 x0 P4 → Calls Try.prog 50 #[.slice a0 n0 k0, .slice (some ⟨x0, 0, none⟩) (wrL P4).length 65] w1 fun e w2 => ∃ g, e = .returned (.slice (some ⟨g, 0, none⟩) (wrL P5).length 65) ∧ Ext w1 w2 ∧ Told w2 g P5) :
    Calls Try.prog 15 #[.slice a0 n0 k0, .slice a1 n1 k1, .slice a2 n2 k2] w fun e w' => e = .returned (.bool true) ∧ Below w.heap.size w w' := by
  have HR0 := Lib.hid hR0
  have HR1 := Lib.hid hR1
  have HR2 := Lib.hid hR2
  have HS := Lib.hid hS
  have HT := Lib.hid hT
  have HU := Lib.hid hU
  have HV := Lib.hid hV
  clear hR0 hR1 hR2 hS hT hU hV 
  go_enter Try.func15, Try.ntmps15
  go_wp2_with (first | (go_at_call 48; ((with_reducible refine (points3_good _ _ a0 n0 k0 f0 X0 Y0 a1 n1 k1 f1 X1 Y1 a2 n2 k2 f2 X2 Y2 _ (by go_simp) (by go_simp) (by go_simp) (fun w1 hE => HR0.out w1 (Ext.trans (by (repeat (first | exact Ext.refl _ | refine Ext.trans ?_ (Ext.al _ _)))) hE)) (fun w1 hE => HR1.out w1 (Ext.trans (by (repeat (first | exact Ext.refl _ | refine Ext.trans ?_ (Ext.al _ _)))) hE)) (fun w1 hE => HR2.out w1 (Ext.trans (by (repeat (first | exact Ext.refl _ | refine Ext.trans ?_ (Ext.al _ _)))) hE))).mono ?_); rintro e w' ⟨rfl, g1, rfl⟩)) | (go_at_call 50; first | ((with_reducible refine (HS.out _ (by (repeat (first | exact Ext.refl _ | refine Ext.trans ?_ (Ext.al _ _) | refine Ext.trans ?_ (Ext.gr _ _)))) ).mono ?_); rintro e w' ⟨b2, rfl, ⟨g2, rfl⟩, ht2⟩) | ((with_reducible refine (HT.out _ _ (by (repeat (first | exact Ext.refl _ | refine Ext.trans ?_ (Ext.al _ _) | refine Ext.trans ?_ (Ext.gr _ _)))) (by first | exact ht2 | exact Ext.told (by (repeat (fail))) ht2)).mono ?_); rintro e w' ⟨b3, rfl, ⟨g3, rfl⟩, ht3⟩) | ((with_reducible refine (HU.out _ (by (repeat (first | exact Ext.refl _ | refine Ext.trans ?_ (Ext.al _ _) | refine Ext.trans ?_ (Ext.gr _ _)))) ).mono ?_); rintro e w' ⟨b4, rfl, ⟨g4, rfl⟩, ht4⟩) | ((with_reducible refine (HV.out _ _ (by (repeat (first | exact Ext.refl _ | refine Ext.trans ?_ (Ext.al _ _) | refine Ext.trans ?_ (Ext.gr _ _)))) (by exact ht4)).mono ?_); rintro e w' ⟨b5, rfl, ⟨g5, rfl⟩, ht5⟩)) | (go_at_call 49; ((with_reducible refine (alike_any _ _ 65 65 P5 _ (by (exact Ext.told (by (repeat (first | exact Ext.refl _ | refine Ext.trans ?_ (Ext.gr _ _)))) ht3)) (by exact ht5) (by decide)).mono ?_); rintro e w' ⟨rfl, g6, rfl⟩)))
  refine bodyPost_ret (v := .bool true) (by simp [results, Try.results15, go_sem]) rfl ⟨rfl, Ext.below (by (repeat (first | exact Ext.refl _ | refine Ext.trans ?_ (Ext.al _ _) | refine Ext.trans ?_ (Ext.gr _ _))))⟩
theorem walk (a0 : Option Addr) (n0 k0 : Nat) (a1 : Option Addr) (n1 k1 : Nat) (a2 : Option Addr) (n2 k2 : Nat) (w : World) (hs0 : (2147483647 : Int) < n0 ∨ Bd w a0 n0 k0 ∨ ∃ P, Gd w a0 n0 k0 P) (hs1 : (2147483647 : Int) < n1 ∨ Bd w a1 n1 k1 ∨ ∃ P, Gd w a1 n1 k1 P) (hs2 : (2147483647 : Int) < n2 ∨ Bd w a2 n2 k2 ∨ ∃ P, Gd w a2 n2 k2 P) :
    Calls Try.prog 15 #[.slice a0 n0 k0, .slice a1 n1 k1, .slice a2 n2 k2] w fun e w' => e = .returned (.bool true) ∧ Below w.heap.size w w' := by
  by_cases hb0 : (2147483647 : Int) < n0
  · exact big0 a0 n0 k0 a1 n1 k1 a2 n2 k2  hb0 w
  replace hs0 := hs0.resolve_left hb0
  by_cases hb1 : (2147483647 : Int) < n1
  · exact big1 a0 n0 k0 a1 n1 k1 a2 n2 k2 hb0 hb1 w
  replace hs1 := hs1.resolve_left hb1
  by_cases hb2 : (2147483647 : Int) < n2
  · exact big2 a0 n0 k0 a1 n1 k1 a2 n2 k2 hb0 hb1 hb2 w
  replace hs2 := hs2.resolve_left hb2
  rcases hs0 with h0 | ⟨P0, h0⟩
  · obtain ⟨f0, X0, Y0, hR0⟩ := h0.read
    exact no0 a0 n0 k0 a1 n1 k1 a2 n2 k2 f0 X0 Y0 hb0 hb1 hb2 w hR0
  have hon0 := h0.on
  have hR0 := h0.read
  obtain ⟨f0, X0, Y0, hpv0⟩ := pv_row P0
  rw [hpv0] at hR0
  rcases hs1 with h1 | ⟨P1, h1⟩
  · obtain ⟨f1, X1, Y1, hR1⟩ := h1.read
    exact no1 a0 n0 k0 a1 n1 k1 a2 n2 k2 f0 X0 Y0 f1 X1 Y1 hb0 hb1 hb2 w hR0 hR1
  have hon1 := h1.on
  have hR1 := h1.read
  obtain ⟨f1, X1, Y1, hpv1⟩ := pv_row P1
  rw [hpv1] at hR1
  rcases hs2 with h2 | ⟨P2, h2⟩
  · obtain ⟨f2, X2, Y2, hR2⟩ := h2.read
    exact no2 a0 n0 k0 a1 n1 k1 a2 n2 k2 f0 X0 Y0 f1 X1 Y1 f2 X2 Y2 hb0 hb1 hb2 w hR0 hR1 hR2
  have hon2 := h2.on
  have hR2 := h2.read
  obtain ⟨f2, X2, Y2, hpv2⟩ := pv_row P2
  rw [hpv2] at hR2
  have hV := fun g w' (hE : Ext w w') (ht : Told w' g (psum P1 P2)) => sum_any _ _ _ _ _ _ P0 (psum P1 P2) w' (hE.gd h0) (ht.gd 65 (wrL_most _))
  rw [← psum_assoc hon0 hon1 hon2] at hV
  exact good _ _ _ _ _ _ _ _ _ f0 X0 Y0 f1 X1 Y1 f2 X2 Y2 (psum P0 P1) (psum P1 P2) (psum (psum P0 P1) P2) hb0 hb1 hb2 w hR0 hR1 hR2 (fun w' hE => sum_any _ _ _ _ _ _ P0 P1 w' (hE.gd h0) (hE.gd h1)) (fun g w' hE ht => sum_any _ _ _ _ _ _ (psum P0 P1) P2 w' (ht.gd 65 (wrL_most _)) (hE.gd h2)) (fun w' hE => sum_any _ _ _ _ _ _ P1 P2 w' (hE.gd h1) (hE.gd h2)) hV
theorem own : ownKnob Try.prog.godebug = none := by kernel_rfl
theorem laidOut : laidOutB Try.prog = true := by kernel_rfl

set_option maxRecDepth 100000 in
theorem lifted (os : Os) (started : os.Started) (H : Type) (enc : TypeId × Value → H) :
    ReturnsInHanded {} Try.checked os 15 .any (Rows.fnAssociatesSpec.pre6 enc Try.prog Try.f15 Rows.fnAssociatesRow.domain false) (Rows.fnAssociatesSpec.post enc Try.prog Try.f15 false true false false) := by
  refine returnsInHanded_of_change (C := Try.checked) own started (by kernel_rfl) Try.func15
    (ChangeSpec.witness6 (enc := enc) (C := Try.checked) false ⟨#[], #[.slice none 0 0, .slice none 0 0, .slice none 0 0], []⟩ 8 (by kernel_rfl) (by kernel_rfl) (by kernel_rfl) (by kernel_rfl)) ?_
  intro W base args ds gs before hval0 hW _ _
  have hval : ∀ (j : Nat) t v, Try.f15.params[j]? = some t → args[j]? = some v → Value.okWide Try.prog W .any base t v := hval0
  have hW' := hW
  obtain ⟨p, q, hA0, _, rfl, _, _⟩ := hW
  have hA : DataW.TrodAll enc Try.prog W 0 (fun _ => true) true Try.f15.params.toList args.toList ds p := hA0
  rw [Try.params15] at hA hval
  obtain ⟨v0, vs0, d0, ds0, p0, q0, hargs, rfl, rfl, h0, r0⟩ := trodAll_cons hA
  obtain ⟨v1, vs1, d1, ds1, p1, q1, rfl, rfl, rfl, h1, r1⟩ := trodAll_cons r0
  obtain ⟨v2, vs2, d2, ds2, p2, q2, rfl, rfl, rfl, h2, r2⟩ := trodAll_cons r1
  obtain ⟨rfl, rfl, rfl⟩ := trodAll_nil r2
  obtain rfl : args = #[v0, v1, v2] := by cases args; simp_all
  obtain ⟨a0, n0, k0, rfl, s0⟩ := bytes_in h0 (okWide_slice Try.underlying22 (hval 0 22 v0 rfl rfl))
  obtain ⟨a1, n1, k1, rfl, s1⟩ := bytes_in h1 (okWide_slice Try.underlying22 (hval 1 22 v1 rfl rfl))
  obtain ⟨a2, n2, k2, rfl, s2⟩ := bytes_in h2 (okWide_slice Try.underlying22 (hval 2 22 v2 rfl rfl))
  clear hA0 hval0
  refine (walk a0 n0 k0 a1 n1 k1 a2 n2 k2 W s0 s1 s2).mono fun e W' ⟨he, hg⟩ => ?_
  subst he
  exact ⟨_, rfl, law_post laidOut hW' rfl rfl Try.underlying4 rfl (by kernel_rfl) hg⟩

theorem closed : joinedFacts Try.pinned.checked.prog 15 Try.f15 Rows.fnAssociatesSpec Rows.fnAssociatesRow = true := closed_of (by kernel_rfl)
theorem over : Rows.fnAssociatesRow.holds Try.pinned (OpenSpec.ofChange Rows.fnAssociatesSpec) :=
  OpenClaim.holds_of_wide 15 Try.f15 rfl rfl rfl rfl rfl rfl rfl ⟨rfl, rfl, rfl, rfl, rfl⟩ rfl rfl rfl rfl rfl (by kernel_rfl) Try.func15 closed
    (of_decide_eq_true (by kernel_rfl)) (by unfold Func.isWrapper; first | (rw [if_pos (by decide +kernel)]; kernel_rfl) | (rw [if_neg (by decide +kernel)]; exact ⟨rfl, rfl⟩))
    (fun os started H enc _ => lifted os started H enc)

/-- THE STATEMENT. -/
theorem proved : Rows.FnAssociatesSaid :=
  over
#print axioms proved
end Go.Proofs.Ytmepgkcijeobkaa.fnAssociates
