/-
  What is proved here: what the laws' reading of four words returns.
  Conditions: those of each theorem.
-/
import Derived.Test.YtlpmkpnjconcdaaRows
import Derived.Test.YtlpmkpnjconcdaaSpecO
import Derived.WalkKit
import Derived.WalkSpells
import Derived.Outline
import Derived.Handy
import Derived.Deep.QuietTactic
import Derived.BigQuiet
import Derived.Lib.Hide
namespace Go.Proofs.Ytlpmkpnjconcdaa
open Go.RowKit
set_option linter.unusedSimpArgs false
set_option linter.unusedVariables false

set_option maxHeartbeats 4000000 in
set_option maxRecDepth 100000 in
theorem ordinal_true (S : Int) (h0 : 0 ≤ S) (h1 : S < R256) (hs : decide (S < ordN) = true) (w : World) :
    Calls Try.prog 6 #[L4 S] w fun e w' => e = .returned (.tuple #[E8 S, .bool true]) ∧ Ext w w' := by
  obtain ⟨d0, d1, d2, d3, hd, he, _⟩ := L4_open S
  obtain ⟨x0, x1, x2, x3, x4, x5, x6, x7, hx, ex, _⟩ := E8_open S
  have c1 : ∀ w, Calls Try.prog 11 #[.agg #[.int .u64 d0, .int .u64 d1, .int .u64 d2, .int .u64 d3]] w fun e w' => e = .returned (.agg #[.int .i64 x0, .int .i64 x1, .int .i64 x2, .int .i64 x3, .int .i64 x4, .int .i64 x5, .int .i64 x6, .int .i64 x7]) ∧ Ext w w' := fun w => by
    have h := OfLimbs_any S h0 h1 w
    rw [he, ex] at h
    exact h
  have c2 : ∀ w, Calls Try.prog 12 #[.agg #[.int .i64 x0, .int .i64 x1, .int .i64 x2, .int .i64 x3, .int .i64 x4, .int .i64 x5, .int .i64 x6, .int .i64 x7], .agg #[.int .i64 4234356049, .int .i64 4089039554, .int .i64 2803342980, .int .i64 3169254061, .int .i64 4294967295, .int .i64 4294967295, .int .i64 0, .int .i64 4294967295]] w fun e w' => e = .returned (.bool true) ∧ Ext w w' := fun w => by
    have h := Below_any S ordN h0 h1 (by decide) (by decide) w
    rw [ex, E8_ordN, hs] at h
    exact h
  have C1 := Lib.hid c1
  have C2 := Lib.hid c2
  rw [he, ex]
  clear c1 c2 hd he hx ex hs
  go_enter Try.func6, Try.ntmps6
  go_wp2_with (first
    | (go_at_call 11; (with_reducible refine (C1.out _).mono ?_); rintro e w' ⟨rfl, g1, rfl⟩)
    | (refine wp_grow_tail (l := [_, _, _, _, _, _]) 4 (by kernel_rfl) (by kernel_rfl) ?_; simp only [List.take_succ_cons, List.take_zero, List.drop_succ_cons, List.drop_zero]; (repeat (first | go_big_quiet_skip | (go_big_quiet_want; go_big_quiet_op; first | go_big_quiet_on | go_big_quiet_call (((first | (go_at_call 13; exact calls_grow (Order_lit _)) | (go_at_call 12; exact calls_grow (C2.out _)))))))); refine wpQuiet_nil ?_; intro _ hw'; obtain ⟨g', hw''⟩ := hw'; subst hw''))
  all_goals
    refine bodyPost_ret (v := .tuple #[.agg #[.int .i64 x0, .int .i64 x1, .int .i64 x2, .int .i64 x3, .int .i64 x4, .int .i64 x5, .int .i64 x6, .int .i64 x7], .bool true]) (by simp [results, Try.results6, go_sem]) rfl ⟨rfl, ?_⟩
    (refine Ext.of_below ?_; (repeat (first | exact Below.refl _ _ | refine below_drewN' ?_ _ | refine below_ext ?_ (by simp <;> omega) _ | apply Below.drew | refine Below.setCell ?_ (by simp <;> omega) _ | refine Below.alloc ?_ (by simp <;> omega) _)))
set_option maxHeartbeats 4000000 in
set_option maxRecDepth 100000 in
theorem ordinal_false (S : Int) (h0 : 0 ≤ S) (h1 : S < R256) (hs : decide (S < ordN) = false) (w : World) :
    Calls Try.prog 6 #[L4 S] w fun e w' => e = .returned (.tuple #[E8 S, .bool false]) ∧ Ext w w' := by
  obtain ⟨d0, d1, d2, d3, hd, he, _⟩ := L4_open S
  obtain ⟨x0, x1, x2, x3, x4, x5, x6, x7, hx, ex, _⟩ := E8_open S
  have c1 : ∀ w, Calls Try.prog 11 #[.agg #[.int .u64 d0, .int .u64 d1, .int .u64 d2, .int .u64 d3]] w fun e w' => e = .returned (.agg #[.int .i64 x0, .int .i64 x1, .int .i64 x2, .int .i64 x3, .int .i64 x4, .int .i64 x5, .int .i64 x6, .int .i64 x7]) ∧ Ext w w' := fun w => by
    have h := OfLimbs_any S h0 h1 w
    rw [he, ex] at h
    exact h
  have c2 : ∀ w, Calls Try.prog 12 #[.agg #[.int .i64 x0, .int .i64 x1, .int .i64 x2, .int .i64 x3, .int .i64 x4, .int .i64 x5, .int .i64 x6, .int .i64 x7], .agg #[.int .i64 4234356049, .int .i64 4089039554, .int .i64 2803342980, .int .i64 3169254061, .int .i64 4294967295, .int .i64 4294967295, .int .i64 0, .int .i64 4294967295]] w fun e w' => e = .returned (.bool false) ∧ Ext w w' := fun w => by
    have h := Below_any S ordN h0 h1 (by decide) (by decide) w
    rw [ex, E8_ordN, hs] at h
    exact h
  have C1 := Lib.hid c1
  have C2 := Lib.hid c2
  rw [he, ex]
  clear c1 c2 hd he hx ex hs
  go_enter Try.func6, Try.ntmps6
  go_wp2_with (first
    | (go_at_call 11; (with_reducible refine (C1.out _).mono ?_); rintro e w' ⟨rfl, g1, rfl⟩)
    | (refine wp_grow_tail (l := [_, _, _, _, _, _]) 4 (by kernel_rfl) (by kernel_rfl) ?_; simp only [List.take_succ_cons, List.take_zero, List.drop_succ_cons, List.drop_zero]; (repeat (first | go_big_quiet_skip | (go_big_quiet_want; go_big_quiet_op; first | go_big_quiet_on | go_big_quiet_call (((first | (go_at_call 13; exact calls_grow (Order_lit _)) | (go_at_call 12; exact calls_grow (C2.out _)))))))); refine wpQuiet_nil ?_; intro _ hw'; obtain ⟨g', hw''⟩ := hw'; subst hw''))
  all_goals
    refine bodyPost_ret (v := .tuple #[.agg #[.int .i64 x0, .int .i64 x1, .int .i64 x2, .int .i64 x3, .int .i64 x4, .int .i64 x5, .int .i64 x6, .int .i64 x7], .bool false]) (by simp [results, Try.results6, go_sem]) rfl ⟨rfl, ?_⟩
    (refine Ext.of_below ?_; (repeat (first | exact Below.refl _ _ | refine below_drewN' ?_ _ | refine below_ext ?_ (by simp <;> omega) _ | apply Below.drew | refine Below.setCell ?_ (by simp <;> omega) _ | refine Below.alloc ?_ (by simp <;> omega) _)))

theorem ordinal_any (S : Int) (h0 : 0 ≤ S) (h1 : S < R256) (w : World) :
    Calls Try.prog 6 #[L4 S] w fun e w' => e = .returned (.tuple #[E8 S, .bool (decide (S < ordN))]) ∧ Ext w w' := by
  cases hs : decide (S < ordN) with
  | true => exact ordinal_true S h0 h1 hs w
  | false => exact ordinal_false S h0 h1 hs w
end Go.Proofs.Ytlpmkpnjconcdaa
