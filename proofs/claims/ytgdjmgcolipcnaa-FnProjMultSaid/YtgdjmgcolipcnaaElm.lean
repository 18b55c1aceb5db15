/-
  What is proved here: what the element's methods return.
  Conditions: those of each theorem.
-/
import Derived.Test.YtgdjmgcolipcnaaProg
import Derived.Test.YtgdjmgcolipcnaaFiat
import Derived.WalkKit
import Derived.WalkSpells
import Derived.Outline
import Derived.Handy
import Derived.ProofKit
import Derived.Deep.QuietTactic
import Derived.BigQuiet
import Derived.Lib.Hide
import Derived.OpenShut
namespace Go.Proofs.Ytgdjmgcolipcnaa
open Go Go.RowKit Ecp
set_option linter.unusedSimpArgs false
set_option linter.unusedVariables false

theorem set4 (w : World) (b o : Nat) (a0 a1 a2 a3 : Value) (hf : Free w b o 4) :
    Turned b o 4 w ((((w.setCell ⟨b, o, none⟩ a0).setCell ⟨b, o + 1, none⟩ a1).setCell ⟨b, o + 2, none⟩ a2).setCell ⟨b, o + 3, none⟩ a3) ∧
    ((((w.setCell ⟨b, o, none⟩ a0).setCell ⟨b, o + 1, none⟩ a1).setCell ⟨b, o + 2, none⟩ a2).setCell ⟨b, o + 3, none⟩ a3).cell? ⟨b, o, none⟩ = some a0 ∧
    ((((w.setCell ⟨b, o, none⟩ a0).setCell ⟨b, o + 1, none⟩ a1).setCell ⟨b, o + 2, none⟩ a2).setCell ⟨b, o + 3, none⟩ a3).cell? ⟨b, o + 1, none⟩ = some a1 ∧
    ((((w.setCell ⟨b, o, none⟩ a0).setCell ⟨b, o + 1, none⟩ a1).setCell ⟨b, o + 2, none⟩ a2).setCell ⟨b, o + 3, none⟩ a3).cell? ⟨b, o + 2, none⟩ = some a2 ∧
    ((((w.setCell ⟨b, o, none⟩ a0).setCell ⟨b, o + 1, none⟩ a1).setCell ⟨b, o + 2, none⟩ a2).setCell ⟨b, o + 3, none⟩ a3).cell? ⟨b, o + 3, none⟩ = some a3 := by
  have s : ∀ i, i < 4 → (w.cell? ⟨b, o + i, none⟩).isSome = true := fun i hi => by obtain ⟨⟨u, hu⟩, _⟩ := hf i hi; rw [hu]; rfl
  have s0 := s 0 (by decide); have s1 := s 1 (by decide); have s2 := s 2 (by decide); have s3 := s 3 (by decide)
  simp only [Nat.add_zero] at s0
  refine ⟨⟨((((Away.refl b w).setCell _ _).setCell _ _).setCell _ _).setCell _ _, fun i hi => ?_, fun i => by simp only [World.frozen?_setCell]⟩, ?_, ?_, ?_, ?_⟩
  · have h0 := hi 0 (by decide); have h1 := hi 1 (by decide); have h2 := hi 2 (by decide); have h3 := hi 3 (by decide)
    rw [cell_set _ _ _ _ _ (by simp only [cell_set_isSome]; exact s3), if_neg (by omega), cell_set _ _ _ _ _ (by simp only [cell_set_isSome]; exact s2), if_neg (by omega), cell_set _ _ _ _ _ (by simp only [cell_set_isSome]; exact s1), if_neg (by omega), cell_set _ _ _ _ _ s0, if_neg (by omega)]
  · rw [cell_set _ _ _ _ _ (by simp only [cell_set_isSome]; exact s3), if_neg (by omega), cell_set _ _ _ _ _ (by simp only [cell_set_isSome]; exact s2), if_neg (by omega), cell_set _ _ _ _ _ (by simp only [cell_set_isSome]; exact s1), if_neg (by omega), cell_set _ _ _ _ _ s0, if_pos rfl]
  · rw [cell_set _ _ _ _ _ (by simp only [cell_set_isSome]; exact s3), if_neg (by omega), cell_set _ _ _ _ _ (by simp only [cell_set_isSome]; exact s2), if_neg (by omega), cell_set _ _ _ _ _ (by simp only [cell_set_isSome]; exact s1), if_pos rfl]
  · rw [cell_set _ _ _ _ _ (by simp only [cell_set_isSome]; exact s3), if_neg (by omega), cell_set _ _ _ _ _ (by simp only [cell_set_isSome]; exact s2), if_pos rfl]
  · rw [cell_set _ _ _ _ _ (by simp only [cell_set_isSome]; exact s3), if_pos rfl]
theorem Turned.undrew {b o len n : Nat} {w w' : World} (h : Turned b o len (w.drewN n) w') : Turned b o len w w' := ⟨h.away, h.keep, h.frz⟩
theorem Turned.undrew1 {b o len : Nat} {w w' : World} (h : Turned b o len w.drew w') : Turned b o len w w' := ⟨h.away, h.keep, h.frz⟩
set_option maxRecDepth 100000 in
theorem Elm_Mul (b o b1 o1 b2 o2 : Nat) (x y : Fp) (w : World) (hb : b < w.heap.size) (hb1 : b1 < w.heap.size) (hb2 : b2 < w.heap.size) (hf : Free w b o 4) (h1 : Elt w b1 o1 x) (h2 : Elt w b2 o2 y) :
    Calls Try.prog 49 #[.pointer (some ⟨b, o, none⟩), .pointer (some ⟨b1, o1, none⟩), .pointer (some ⟨b2, o2, none⟩)] w fun e w' => e = .returned (.pointer (some ⟨b, o, none⟩)) ∧ Turned b o 4 w w' ∧ Elt w' b o (x * y) := by
  have H := Lib.hid (And.intro hb (And.intro hb1 (And.intro hb2 (And.intro hf (And.intro h1 h2)))))
  clear hb hb1 hb2 hf h1 h2
  go_enter Try.func49, Try.ntmps49
  go_wp2_with (first | (refine wp_quiet_tail (l := [_, _, _, _, _, _, _, _, _, _]) 9 (by kernel_rfl) (by kernel_rfl) ?_; simp only [List.take_succ_cons, List.take_zero, List.drop_succ_cons, List.drop_zero]; (repeat (first | go_big_quiet_skip | (go_big_quiet_want; go_big_quiet_op; first | go_big_quiet_on))); refine wpQuiet_nil ?_; intro _ hw'; obtain ⟨nq, hw''⟩ := hw'; subst hw'') | (go_at_call 61; go_must (refine (p256Mul_any b o b1 o1 b2 o2 x y (w.drewN nq) H.out.1 H.out.2.1 H.out.2.2.1 (H.out.2.2.2.1.drewN _) (H.out.2.2.2.2.1.drewN _) (H.out.2.2.2.2.2.drewN _)).mono ?_); rintro e w1 ⟨rfl, hT, hE⟩; have H1 := Lib.hid (And.intro hT.undrew hE); clear hT hE))
  refine bodyPost_ret (v := .pointer (some ⟨b, o, none⟩)) (by simp [results, Try.results49, go_sem]) rfl ⟨rfl, H1.out.1, H1.out.2⟩

set_option maxRecDepth 100000 in
theorem Elm_Add (b o b1 o1 b2 o2 : Nat) (x y : Fp) (w : World) (hb : b < w.heap.size) (hb1 : b1 < w.heap.size) (hb2 : b2 < w.heap.size) (hf : Free w b o 4) (h1 : Elt w b1 o1 x) (h2 : Elt w b2 o2 y) :
    Calls Try.prog 50 #[.pointer (some ⟨b, o, none⟩), .pointer (some ⟨b1, o1, none⟩), .pointer (some ⟨b2, o2, none⟩)] w fun e w' => e = .returned (.pointer (some ⟨b, o, none⟩)) ∧ Turned b o 4 w w' ∧ Elt w' b o (x + y) := by
  have H := Lib.hid (And.intro hb (And.intro hb1 (And.intro hb2 (And.intro hf (And.intro h1 h2)))))
  clear hb hb1 hb2 hf h1 h2
  go_enter Try.func50, Try.ntmps50
  go_wp2_with (first | (refine wp_quiet_tail (l := [_, _, _, _, _, _, _, _, _, _]) 9 (by kernel_rfl) (by kernel_rfl) ?_; simp only [List.take_succ_cons, List.take_zero, List.drop_succ_cons, List.drop_zero]; (repeat (first | go_big_quiet_skip | (go_big_quiet_want; go_big_quiet_op; first | go_big_quiet_on))); refine wpQuiet_nil ?_; intro _ hw'; obtain ⟨nq, hw''⟩ := hw'; subst hw'') | (go_at_call 62; go_must (refine (p256Add_any b o b1 o1 b2 o2 x y (w.drewN nq) H.out.1 H.out.2.1 H.out.2.2.1 (H.out.2.2.2.1.drewN _) (H.out.2.2.2.2.1.drewN _) (H.out.2.2.2.2.2.drewN _)).mono ?_); rintro e w1 ⟨rfl, hT, hE⟩; have H1 := Lib.hid (And.intro hT.undrew hE); clear hT hE))
  refine bodyPost_ret (v := .pointer (some ⟨b, o, none⟩)) (by simp [results, Try.results50, go_sem]) rfl ⟨rfl, H1.out.1, H1.out.2⟩

set_option maxRecDepth 100000 in
theorem Elm_Sub (b o b1 o1 b2 o2 : Nat) (x y : Fp) (w : World) (hb : b < w.heap.size) (hb1 : b1 < w.heap.size) (hb2 : b2 < w.heap.size) (hf : Free w b o 4) (h1 : Elt w b1 o1 x) (h2 : Elt w b2 o2 y) :
    Calls Try.prog 52 #[.pointer (some ⟨b, o, none⟩), .pointer (some ⟨b1, o1, none⟩), .pointer (some ⟨b2, o2, none⟩)] w fun e w' => e = .returned (.pointer (some ⟨b, o, none⟩)) ∧ Turned b o 4 w w' ∧ Elt w' b o (x - y) := by
  have H := Lib.hid (And.intro hb (And.intro hb1 (And.intro hb2 (And.intro hf (And.intro h1 h2)))))
  clear hb hb1 hb2 hf h1 h2
  go_enter Try.func52, Try.ntmps52
  go_wp2_with (first | (refine wp_quiet_tail (l := [_, _, _, _, _, _, _, _, _, _]) 9 (by kernel_rfl) (by kernel_rfl) ?_; simp only [List.take_succ_cons, List.take_zero, List.drop_succ_cons, List.drop_zero]; (repeat (first | go_big_quiet_skip | (go_big_quiet_want; go_big_quiet_op; first | go_big_quiet_on))); refine wpQuiet_nil ?_; intro _ hw'; obtain ⟨nq, hw''⟩ := hw'; subst hw'') | (go_at_call 63; go_must (refine (p256Sub_any b o b1 o1 b2 o2 x y (w.drewN nq) H.out.1 H.out.2.1 H.out.2.2.1 (H.out.2.2.2.1.drewN _) (H.out.2.2.2.2.1.drewN _) (H.out.2.2.2.2.2.drewN _)).mono ?_); rintro e w1 ⟨rfl, hT, hE⟩; have H1 := Lib.hid (And.intro hT.undrew hE); clear hT hE))
  refine bodyPost_ret (v := .pointer (some ⟨b, o, none⟩)) (by simp [results, Try.results52, go_sem]) rfl ⟨rfl, H1.out.1, H1.out.2⟩

set_option maxRecDepth 100000 in
theorem Elm_Square (b o b1 o1 : Nat) (x : Fp) (w : World) (hb : b < w.heap.size) (hb1 : b1 < w.heap.size) (hf : Free w b o 4) (h1 : Elt w b1 o1 x) :
    Calls Try.prog 48 #[.pointer (some ⟨b, o, none⟩), .pointer (some ⟨b1, o1, none⟩)] w fun e w' => e = .returned (.pointer (some ⟨b, o, none⟩)) ∧ Turned b o 4 w w' ∧ Elt w' b o (x * x) := by
  have H := Lib.hid (And.intro hb (And.intro hb1 (And.intro hf h1)))
  clear hb hb1 hf h1
  go_enter Try.func48, Try.ntmps48
  go_wp2_with (first | (refine wp_quiet_tail (l := [_, _, _, _, _, _, _]) 6 (by kernel_rfl) (by kernel_rfl) ?_; simp only [List.take_succ_cons, List.take_zero, List.drop_succ_cons, List.drop_zero]; (repeat (first | go_big_quiet_skip | (go_big_quiet_want; go_big_quiet_op; first | go_big_quiet_on))); refine wpQuiet_nil ?_; intro _ hw'; obtain ⟨nq, hw''⟩ := hw'; subst hw'') | (go_at_call 60; go_must (refine (p256Square_any b o b1 o1 x (w.drewN nq) H.out.1 H.out.2.1 (H.out.2.2.1.drewN _) (H.out.2.2.2.drewN _)).mono ?_); rintro e w1 ⟨rfl, hT, hE⟩; have H1 := Lib.hid (And.intro hT.undrew hE); clear hT hE))
  refine bodyPost_ret (v := .pointer (some ⟨b, o, none⟩)) (by simp [results, Try.results48, go_sem]) rfl ⟨rfl, H1.out.1, H1.out.2⟩

set_option maxRecDepth 100000 in
theorem Elm_One (b o : Nat) (w : World) (hb : b < w.heap.size) (hf : Free w b o 4) :
    Calls Try.prog 25 #[.pointer (some ⟨b, o, none⟩)] w fun e w' => e = .returned (.pointer (some ⟨b, o, none⟩)) ∧ Turned b o 4 w w' ∧ Elt w' b o 1 := by
  have H := Lib.hid (And.intro hb hf)
  clear hb hf
  go_enter Try.func25, Try.ntmps25
  go_wp2_with (go_at_call 41; go_must (refine (p256SetOne_any b o w H.out.1 H.out.2).mono ?_); rintro e w1 ⟨rfl, hT, hE⟩; have H1 := Lib.hid (And.intro hT hE); clear hT hE)
  refine bodyPost_ret (v := .pointer (some ⟨b, o, none⟩)) (by simp [results, Try.results25, go_sem]) rfl ⟨rfl, H1.out.1, H1.out.2⟩

set_option maxRecDepth 100000 in
theorem Elm_Select0 (b o b1 o1 b2 o2 : Nat) (x y : Fp) (w : World) (hb : b < w.heap.size) (hb1 : b1 < w.heap.size) (hb2 : b2 < w.heap.size) (hf : Free w b o 4) (h1 : Elt w b1 o1 x) (h2 : Elt w b2 o2 y) :
    Calls Try.prog 54 #[.pointer (some ⟨b, o, none⟩), .pointer (some ⟨b1, o1, none⟩), .pointer (some ⟨b2, o2, none⟩), .int .i64 0] w fun e w' => e = .returned (.pointer (some ⟨b, o, none⟩)) ∧ Turned b o 4 w w' ∧ Elt w' b o y := by
  have H := Lib.hid (And.intro hb (And.intro hb1 (And.intro hb2 (And.intro hf (And.intro h1 h2)))))
  clear hb hb1 hb2 hf h1 h2
  go_enter Try.func54, Try.ntmps54
  go_wp2_with (first | (refine wp_quiet_tail (l := [_, _, _, _, _, _, _, _, _, _, _, _]) 11 (by kernel_rfl) (by kernel_rfl) ?_; simp only [List.take_succ_cons, List.take_zero, List.drop_succ_cons, List.drop_zero]; (repeat (first | go_big_quiet_skip | (go_big_quiet_want; go_big_quiet_op; first | go_big_quiet_on))); refine wpQuiet_nil ?_; intro _ hw'; obtain ⟨nq, hw''⟩ := hw'; subst hw'') | (go_at_call 64; go_must (refine (p256Selectznz_0 b o b2 o2 b1 o1 y x (w.drewN nq) H.out.1 H.out.2.2.1 H.out.2.1 (H.out.2.2.2.1.drewN _) (H.out.2.2.2.2.2.drewN _) (H.out.2.2.2.2.1.drewN _)).mono ?_); rintro e w1 ⟨rfl, hT, hE⟩; have H1 := Lib.hid (And.intro hT.undrew hE); clear hT hE))
  refine bodyPost_ret (v := .pointer (some ⟨b, o, none⟩)) (by simp [results, Try.results54, go_sem]) rfl ⟨rfl, H1.out.1, H1.out.2⟩

set_option maxRecDepth 100000 in
theorem Elm_Select1 (b o b1 o1 b2 o2 : Nat) (x y : Fp) (w : World) (hb : b < w.heap.size) (hb1 : b1 < w.heap.size) (hb2 : b2 < w.heap.size) (hf : Free w b o 4) (h1 : Elt w b1 o1 x) (h2 : Elt w b2 o2 y) :
    Calls Try.prog 54 #[.pointer (some ⟨b, o, none⟩), .pointer (some ⟨b1, o1, none⟩), .pointer (some ⟨b2, o2, none⟩), .int .i64 1] w fun e w' => e = .returned (.pointer (some ⟨b, o, none⟩)) ∧ Turned b o 4 w w' ∧ Elt w' b o x := by
  have H := Lib.hid (And.intro hb (And.intro hb1 (And.intro hb2 (And.intro hf (And.intro h1 h2)))))
  clear hb hb1 hb2 hf h1 h2
  go_enter Try.func54, Try.ntmps54
  go_wp2_with (first | (refine wp_quiet_tail (l := [_, _, _, _, _, _, _, _, _, _, _, _]) 11 (by kernel_rfl) (by kernel_rfl) ?_; simp only [List.take_succ_cons, List.take_zero, List.drop_succ_cons, List.drop_zero]; (repeat (first | go_big_quiet_skip | (go_big_quiet_want; go_big_quiet_op; first | go_big_quiet_on))); refine wpQuiet_nil ?_; intro _ hw'; obtain ⟨nq, hw''⟩ := hw'; subst hw'') | (go_at_call 64; go_must (refine (p256Selectznz_1 b o b2 o2 b1 o1 y x (w.drewN nq) H.out.1 H.out.2.2.1 H.out.2.1 (H.out.2.2.2.1.drewN _) (H.out.2.2.2.2.2.drewN _) (H.out.2.2.2.2.1.drewN _)).mono ?_); rintro e w1 ⟨rfl, hT, hE⟩; have H1 := Lib.hid (And.intro hT.undrew hE); clear hT hE))
  refine bodyPost_ret (v := .pointer (some ⟨b, o, none⟩)) (by simp [results, Try.results54, go_sem]) rfl ⟨rfl, H1.out.1, H1.out.2⟩

set_option maxRecDepth 100000 in
theorem Elm_Set (b o b1 o1 : Nat) (x : Fp) (w : World) (hb : b < w.heap.size) (hb1 : b1 < w.heap.size) (hf : Free w b o 4) (h1 : Elt w b1 o1 x) :
    Calls Try.prog 53 #[.pointer (some ⟨b, o, none⟩), .pointer (some ⟨b1, o1, none⟩)] w fun e w' => e = .returned (.pointer (some ⟨b, o, none⟩)) ∧ Turned b o 4 w w' ∧ Elt w' b o x := by
  unfold Elt at h1 ⊢
  obtain ⟨a0, a1, a2, a3, hq, hv, hbd⟩ := limbs (mont_bd' x).1 (mont_bd' x).2
  rw [hq] at h1 ⊢
  have c0 := h1 0 a0 rfl
  have c1 := h1 1 a1 rfl
  have c2 := h1 2 a2 rfl
  have c3 := h1 3 a3 rfl
  obtain ⟨⟨u0, d0⟩, f0⟩ := hf 0 (by decide)
  obtain ⟨⟨u1, d1⟩, f1⟩ := hf 1 (by decide)
  obtain ⟨⟨u2, d2⟩, f2⟩ := hf 2 (by decide)
  obtain ⟨⟨u3, d3⟩, f3⟩ := hf 3 (by decide)
  simp only [Nat.add_zero] at c0 d0 f0
  have H := Lib.hid (And.intro hb (And.intro hb1 (And.intro hf h1)))
  clear hb hb1 hf h1 hq hv hbd
  go_enter Try.func53, Try.ntmps53
  go_wp2
  obtain ⟨hT, k0, k1, k2, k3⟩ := set4 w b o (.int .u64 a0) (.int .u64 a1) (.int .u64 a2) (.int .u64 a3) H.out.2.2.1
  refine bodyPost_ret (v := .pointer (some ⟨b, o, none⟩)) (by simp [results, Try.results53, go_sem]) rfl ⟨rfl, hT, ?_⟩
  intro i x hi
  match i, hi with
  | 0, hi => obtain rfl := Option.some.inj hi; exact k0
  | 1, hi => obtain rfl := Option.some.inj hi; exact k1
  | 2, hi => obtain rfl := Option.some.inj hi; exact k2
  | 3, hi => obtain rfl := Option.some.inj hi; exact k3

end Go.Proofs.Ytgdjmgcolipcnaa
