/-
  What is proved here: what the reference's functions adding modulo the order returns.
  Conditions: those of each theorem.
-/
import Derived.Test.YtlpmkpnjconcdaaRows
import Derived.Test.YtlpmkpnjconcdaaSpecB
import Derived.Test.YtlpmkpnjconcdaaMem
import Derived.WalkKit
import Derived.WalkSpells
import Derived.Outline
import Derived.Handy
import Derived.ProofKit
import Derived.OpenShut
import Derived.LoopTactic
import Derived.Deep.QuietTactic
import Derived.BigQuiet
import Derived.Lib.Hide
namespace Go.Proofs.Ytlpmkpnjconcdaa
open Go.RowKit
set_option linter.unusedSimpArgs false
set_option linter.unusedVariables false


theorem digs_mod : ∀ (k : Nat) (S m : Int), digs k (S + 4294967296 ^ k * m) = digs k S
  | 0, _, _ => rfl
  | k + 1, S, m => by
    have e : S + 4294967296 ^ (k + 1) * m = S + 4294967296 * (4294967296 ^ k * m) := by rw [Int.pow_succ, Int.mul_comm (4294967296 ^ k) 4294967296, Int.mul_assoc]
    rw [e]
    generalize hx : (4294967296 : Int) ^ k * m = x
    simp only [digs]
    have e1 : (S + 4294967296 * x) % 4294967296 = S % 4294967296 := by omega
    have e2 : (S + 4294967296 * x) / 4294967296 = S / 4294967296 + x := by omega
    rw [e1, e2, ← hx, digs_mod k]
/-- The sum of two numbers below the order, modulo it. -/
def ordAdd (a b : Int) : Int := if a + b < ordN then a + b else a + b - ordN
theorem ordAdd_bd (a b : Int) (ha0 : 0 ≤ a) (ha : a < ordN) (hb0 : 0 ≤ b) (hb : b < ordN) : 0 ≤ ordAdd a b ∧ ordAdd a b < ordN := by
  unfold ordAdd
  by_cases h : a + b < ordN
  · rw [if_pos h]; omega
  · rw [if_neg h]; omega

set_option maxHeartbeats 4000000 in
set_option maxRecDepth 100000 in
theorem sumBelow_low (a b : Int) (ha0 : 0 ≤ a) (ha : a < ordN) (hb0 : 0 ≤ b) (hb : b < ordN) (hr : a + b < R256) (hn : a + b < ordN) (w : World) :
    Calls Try.prog 15 #[E8 a, E8 b] w fun e w' => e = .returned (E8 (ordAdd a b)) ∧ Ext w w' := by
  have hR : ordN < R256 := by decide
  obtain ⟨a0, a1, a2, a3, a4, a5, a6, a7, ha_, ea, ⟨pa0, qa0⟩, ⟨pa1, qa1⟩, ⟨pa2, qa2⟩, ⟨pa3, qa3⟩, ⟨pa4, qa4⟩, ⟨pa5, qa5⟩, ⟨pa6, qa6⟩, ⟨pa7, qa7⟩⟩ := E8_open a
  obtain ⟨b0, b1, b2, b3, b4, b5, b6, b7, hb_, eb, ⟨pb0, qb0⟩, ⟨pb1, qb1⟩, ⟨pb2, qb2⟩, ⟨pb3, qb3⟩, ⟨pb4, qb4⟩, ⟨pb5, qb5⟩, ⟨pb6, qb6⟩, ⟨pb7, qb7⟩⟩ := E8_open b
  obtain ⟨s0, s1, s2, s3, s4, s5, s6, s7, hs, es, ⟨ps0, qs0⟩, ⟨ps1, qs1⟩, ⟨ps2, qs2⟩, ⟨ps3, qs3⟩, ⟨ps4, qs4⟩, ⟨ps5, qs5⟩, ⟨ps6, qs6⟩, ⟨ps7, qs7⟩⟩ := E8_open (a + b)
  have va : val [a0, a1, a2, a3, a4, a5, a6, a7] = a := by rw [← ha_, val_E8 ha0 (by omega)]
  have vb : val [b0, b1, b2, b3, b4, b5, b6, b7] = b := by rw [← hb_, val_E8 hb0 (by omega)]
  have v1 : val [a0 + b0, a1 + b1, a2 + b2, a3 + b3, a4 + b4, a5 + b5, a6 + b6, a7 + b7] = a + b := by rw [← va, ← vb]; simp only [val]; omega
  have hc : cy 8 (a + b) = 0 := by
    exact cy_zero 8 _ (by omega) (by rw [pow8]; omega)
  have vs : val [s0, s1, s2, s3, s4, s5, s6, s7] = a + b - R256 * 0 := by rw [← hs, val_digs, hc, pow8]
  have c1 : ∀ w, Calls Try.prog 19 #[.agg #[.int .i64 (a0 + b0), .int .i64 (a1 + b1), .int .i64 (a2 + b2), .int .i64 (a3 + b3), .int .i64 (a4 + b4), .int .i64 (a5 + b5), .int .i64 (a6 + b6), .int .i64 (a7 + b7)]] w fun e w' => e = .returned (.tuple #[.agg #[.int .i64 s0, .int .i64 s1, .int .i64 s2, .int .i64 s3, .int .i64 s4, .int .i64 s5, .int .i64 s6, .int .i64 s7], .int .i64 0]) ∧ Ext w w' := fun w => by
    have h := carried_any [a0 + b0, a1 + b1, a2 + b2, a3 + b3, a4 + b4, a5 + b5, a6 + b6, a7 + b7] rfl (by
      intro x hx
      simp only [List.mem_cons, List.not_mem_nil, or_false] at hx
      rcases hx with rfl | rfl | rfl | rfl | rfl | rfl | rfl | rfl <;> omega) w
    rw [v1, hc, es] at h
    exact h
  have C1 := Lib.hid c1
  clear c1
  have bl : ∀ w, Calls Try.prog 12 #[.agg #[.int .i64 s0, .int .i64 s1, .int .i64 s2, .int .i64 s3, .int .i64 s4, .int .i64 s5, .int .i64 s6, .int .i64 s7], .agg #[.int .i64 4234356049, .int .i64 4089039554, .int .i64 2803342980, .int .i64 3169254061, .int .i64 4294967295, .int .i64 4294967295, .int .i64 0, .int .i64 4294967295]] w fun e w' => e = .returned (.bool true) ∧ Ext w w' := fun w => by
    have h := Below_raw [s0, s1, s2, s3, s4, s5, s6, s7] [4234356049, 4089039554, 2803342980, 3169254061, 4294967295, 4294967295, 0, 4294967295] rfl rfl w
    have hlt : lexlt [s0, s1, s2, s3, s4, s5, s6, s7] [4234356049, 4089039554, 2803342980, 3169254061, 4294967295, 4294967295, 0, 4294967295] = true := by
      rw [← hs, ← digs_ordN, lexlt_val _ _ (by simp [digs_length]) (digs_bd _ _) (digs_bd _ _), val_E8 (by omega) (by omega), val_E8 (by decide) (by decide)]
      simpa using hn
    rw [hlt] at h
    exact h
  have BL := Lib.hid bl
  clear bl
  have hf : ordAdd a b = a + b := by unfold ordAdd; exact if_pos hn
  rw [hf, ea, eb, es]
  clear va vb v1 hc vs hs  ha_ hb_ hf ea eb es  hR ha0 ha hb0 hb hn hr
  go_enter Try.func15, Try.ntmps15
  go_wp2_with (go_at_call 13; refine (Order_lit _).mono ?_; rintro e w' ⟨rfl, g1, rfl⟩)
  refine wp_loop_rounds 9 ?_
  iterate 8 (rw [rounds_succ]; go_wp2_with (refine wp_quiet_tail (l := [_, _, _, _, _, _, _, _, _, _]) 9 (by kernel_rfl) (by kernel_rfl) ?_; simp only [List.take_succ_cons, List.take_zero, List.drop_succ_cons, List.drop_zero]; (repeat (first | go_big_quiet_skip | (go_big_quiet_want; go_big_quiet_op; first | go_big_quiet_on))); refine wpQuiet_nil ?_; intro _ hw'; obtain ⟨nq, hw''⟩ := hw'; subst hw''))
  rw [rounds_succ]
  go_wp2_with (first | (go_at_call 19; (with_reducible refine (C1.out _).mono ?_); rintro e w' ⟨rfl, g2, rfl⟩) | (go_at_call 12; (with_reducible refine (BL.out _).mono ?_); rintro e w' ⟨rfl, g3, rfl⟩))
  refine bodyPost_ret (v := ?vr) (by simp [results, Try.results15, go_sem]; rfl) rfl ⟨?_, ?_⟩
  · rfl
  · (refine Ext.of_below ?_; (repeat (first | exact Below.refl _ _ | refine below_drewN' ?_ _ | refine below_ext ?_ (by simp <;> omega) _ | apply Below.drew | refine Below.setCell ?_ (by simp <;> omega) _ | refine Below.alloc ?_ (by simp <;> omega) _)))

set_option maxHeartbeats 4000000 in
set_option maxRecDepth 100000 in
theorem sumBelow_mid (a b : Int) (ha0 : 0 ≤ a) (ha : a < ordN) (hb0 : 0 ≤ b) (hb : b < ordN) (hr : a + b < R256) (hn : ¬ a + b < ordN) (w : World) :
    Calls Try.prog 15 #[E8 a, E8 b] w fun e w' => e = .returned (E8 (ordAdd a b)) ∧ Ext w w' := by
  have hR : ordN < R256 := by decide
  obtain ⟨a0, a1, a2, a3, a4, a5, a6, a7, ha_, ea, ⟨pa0, qa0⟩, ⟨pa1, qa1⟩, ⟨pa2, qa2⟩, ⟨pa3, qa3⟩, ⟨pa4, qa4⟩, ⟨pa5, qa5⟩, ⟨pa6, qa6⟩, ⟨pa7, qa7⟩⟩ := E8_open a
  obtain ⟨b0, b1, b2, b3, b4, b5, b6, b7, hb_, eb, ⟨pb0, qb0⟩, ⟨pb1, qb1⟩, ⟨pb2, qb2⟩, ⟨pb3, qb3⟩, ⟨pb4, qb4⟩, ⟨pb5, qb5⟩, ⟨pb6, qb6⟩, ⟨pb7, qb7⟩⟩ := E8_open b
  obtain ⟨s0, s1, s2, s3, s4, s5, s6, s7, hs, es, ⟨ps0, qs0⟩, ⟨ps1, qs1⟩, ⟨ps2, qs2⟩, ⟨ps3, qs3⟩, ⟨ps4, qs4⟩, ⟨ps5, qs5⟩, ⟨ps6, qs6⟩, ⟨ps7, qs7⟩⟩ := E8_open (a + b)
  have va : val [a0, a1, a2, a3, a4, a5, a6, a7] = a := by rw [← ha_, val_E8 ha0 (by omega)]
  have vb : val [b0, b1, b2, b3, b4, b5, b6, b7] = b := by rw [← hb_, val_E8 hb0 (by omega)]
  have v1 : val [a0 + b0, a1 + b1, a2 + b2, a3 + b3, a4 + b4, a5 + b5, a6 + b6, a7 + b7] = a + b := by rw [← va, ← vb]; simp only [val]; omega
  have hc : cy 8 (a + b) = 0 := by
    exact cy_zero 8 _ (by omega) (by rw [pow8]; omega)
  have vs : val [s0, s1, s2, s3, s4, s5, s6, s7] = a + b - R256 * 0 := by rw [← hs, val_digs, hc, pow8]
  have c1 : ∀ w, Calls Try.prog 19 #[.agg #[.int .i64 (a0 + b0), .int .i64 (a1 + b1), .int .i64 (a2 + b2), .int .i64 (a3 + b3), .int .i64 (a4 + b4), .int .i64 (a5 + b5), .int .i64 (a6 + b6), .int .i64 (a7 + b7)]] w fun e w' => e = .returned (.tuple #[.agg #[.int .i64 s0, .int .i64 s1, .int .i64 s2, .int .i64 s3, .int .i64 s4, .int .i64 s5, .int .i64 s6, .int .i64 s7], .int .i64 0]) ∧ Ext w w' := fun w => by
    have h := carried_any [a0 + b0, a1 + b1, a2 + b2, a3 + b3, a4 + b4, a5 + b5, a6 + b6, a7 + b7] rfl (by
      intro x hx
      simp only [List.mem_cons, List.not_mem_nil, or_false] at hx
      rcases hx with rfl | rfl | rfl | rfl | rfl | rfl | rfl | rfl <;> omega) w
    rw [v1, hc, es] at h
    exact h
  have C1 := Lib.hid c1
  clear c1
  have bl : ∀ w, Calls Try.prog 12 #[.agg #[.int .i64 s0, .int .i64 s1, .int .i64 s2, .int .i64 s3, .int .i64 s4, .int .i64 s5, .int .i64 s6, .int .i64 s7], .agg #[.int .i64 4234356049, .int .i64 4089039554, .int .i64 2803342980, .int .i64 3169254061, .int .i64 4294967295, .int .i64 4294967295, .int .i64 0, .int .i64 4294967295]] w fun e w' => e = .returned (.bool false) ∧ Ext w w' := fun w => by
    have h := Below_raw [s0, s1, s2, s3, s4, s5, s6, s7] [4234356049, 4089039554, 2803342980, 3169254061, 4294967295, 4294967295, 0, 4294967295] rfl rfl w
    have hlt : lexlt [s0, s1, s2, s3, s4, s5, s6, s7] [4234356049, 4089039554, 2803342980, 3169254061, 4294967295, 4294967295, 0, 4294967295] = false := by
      rw [← hs, ← digs_ordN, lexlt_val _ _ (by simp [digs_length]) (digs_bd _ _) (digs_bd _ _), val_E8 (by omega) (by omega), val_E8 (by decide) (by decide)]
      simpa using hn
    rw [hlt] at h
    exact h
  have BL := Lib.hid bl
  clear bl
  obtain ⟨t0, t1, t2, t3, t4, t5, t6, t7, ht, et, ⟨pt0, qt0⟩, ⟨pt1, qt1⟩, ⟨pt2, qt2⟩, ⟨pt3, qt3⟩, ⟨pt4, qt4⟩, ⟨pt5, qt5⟩, ⟨pt6, qt6⟩, ⟨pt7, qt7⟩⟩ := E8_open (a + b - ordN)
  have v2 : val [s0 - 4234356049, s1 - 4089039554, s2 - 2803342980, s3 - 3169254061, s4 - 4294967295, s5 - 4294967295, s6, s7 - 4294967295] = a + b - ordN + 4294967296 ^ 8 * (-0) := by
    have e : val [s0 - 4234356049, s1 - 4089039554, s2 - 2803342980, s3 - 3169254061, s4 - 4294967295, s5 - 4294967295, s6, s7 - 4294967295] = val [s0, s1, s2, s3, s4, s5, s6, s7] - ordN := by simp only [val, ordN]; omega
    rw [e, vs, pow8]; omega
  have c2 : ∀ w, Calls Try.prog 19 #[.agg #[.int .i64 (s0 - 4234356049), .int .i64 (s1 - 4089039554), .int .i64 (s2 - 2803342980), .int .i64 (s3 - 3169254061), .int .i64 (s4 - 4294967295), .int .i64 (s5 - 4294967295), .int .i64 s6, .int .i64 (s7 - 4294967295)]] w fun e w' => e = .returned (.tuple #[.agg #[.int .i64 t0, .int .i64 t1, .int .i64 t2, .int .i64 t3, .int .i64 t4, .int .i64 t5, .int .i64 t6, .int .i64 t7], .int .i64 (cy 8 (a + b - ordN + 4294967296 ^ 8 * (-0)))]) ∧ Ext w w' := fun w => by
    have h := carried_any [s0 - 4234356049, s1 - 4089039554, s2 - 2803342980, s3 - 3169254061, s4 - 4294967295, s5 - 4294967295, s6, s7 - 4294967295] rfl (by
      intro x hx
      simp only [List.mem_cons, List.not_mem_nil, or_false] at hx
      rcases hx with rfl | rfl | rfl | rfl | rfl | rfl | rfl | rfl <;> omega) w
    rw [v2, E8, digs_mod, ← E8, et] at h
    exact h
  generalize cy 8 (a + b - ordN + 4294967296 ^ 8 * (-0)) = c9 at c2
  have C2 := Lib.hid c2
  clear c2 v2
  have hf : ordAdd a b = a + b - ordN := by unfold ordAdd; exact if_neg (by omega)
  rw [hf, ea, eb, et]
  clear va vb v1 hc vs hs ht ha_ hb_ hf ea eb es et hR ha0 ha hb0 hb hn hr
  go_enter Try.func15, Try.ntmps15
  go_wp2_with (go_at_call 13; refine (Order_lit _).mono ?_; rintro e w' ⟨rfl, g1, rfl⟩)
  refine wp_loop_rounds 9 ?_
  iterate 8 (rw [rounds_succ]; go_wp2_with (refine wp_quiet_tail (l := [_, _, _, _, _, _, _, _, _, _]) 9 (by kernel_rfl) (by kernel_rfl) ?_; simp only [List.take_succ_cons, List.take_zero, List.drop_succ_cons, List.drop_zero]; (repeat (first | go_big_quiet_skip | (go_big_quiet_want; go_big_quiet_op; first | go_big_quiet_on))); refine wpQuiet_nil ?_; intro _ hw'; obtain ⟨nq, hw''⟩ := hw'; subst hw''))
  rw [rounds_succ]
  go_wp2_with (first | (go_at_call 19; (with_reducible refine (C1.out _).mono ?_); rintro e w' ⟨rfl, g2, rfl⟩) | (go_at_call 12; (with_reducible refine (BL.out _).mono ?_); rintro e w' ⟨rfl, g3, rfl⟩))
  refine wp_loop_rounds 9 ?_
  iterate 8 (rw [rounds_succ]; go_wp2_with (refine wp_quiet_tail (l := [_, _, _, _, _, _, _, _, _]) 8 (by kernel_rfl) (by kernel_rfl) ?_; simp only [List.take_succ_cons, List.take_zero, List.drop_succ_cons, List.drop_zero]; (repeat (first | go_big_quiet_skip | (go_big_quiet_want; go_big_quiet_op; first | go_big_quiet_on))); refine wpQuiet_nil ?_; intro _ hw'; obtain ⟨nq, hw''⟩ := hw'; subst hw''))
  rw [rounds_succ]
  go_wp2_with (go_at_call 19; (with_reducible refine (C2.out _).mono ?_); rintro e w' ⟨rfl, g4, rfl⟩)
  refine bodyPost_ret (v := ?vr) (by simp [results, Try.results15, go_sem]; rfl) rfl ⟨?_, ?_⟩
  · rfl
  · (refine Ext.of_below ?_; (repeat (first | exact Below.refl _ _ | refine below_drewN' ?_ _ | refine below_ext ?_ (by simp <;> omega) _ | apply Below.drew | refine Below.setCell ?_ (by simp <;> omega) _ | refine Below.alloc ?_ (by simp <;> omega) _)))

set_option maxHeartbeats 4000000 in
set_option maxRecDepth 100000 in
theorem sumBelow_ovf (a b : Int) (ha0 : 0 ≤ a) (ha : a < ordN) (hb0 : 0 ≤ b) (hb : b < ordN) (hr : ¬ a + b < R256) (w : World) :
    Calls Try.prog 15 #[E8 a, E8 b] w fun e w' => e = .returned (E8 (ordAdd a b)) ∧ Ext w w' := by
  have hR : ordN < R256 := by decide
  obtain ⟨a0, a1, a2, a3, a4, a5, a6, a7, ha_, ea, ⟨pa0, qa0⟩, ⟨pa1, qa1⟩, ⟨pa2, qa2⟩, ⟨pa3, qa3⟩, ⟨pa4, qa4⟩, ⟨pa5, qa5⟩, ⟨pa6, qa6⟩, ⟨pa7, qa7⟩⟩ := E8_open a
  obtain ⟨b0, b1, b2, b3, b4, b5, b6, b7, hb_, eb, ⟨pb0, qb0⟩, ⟨pb1, qb1⟩, ⟨pb2, qb2⟩, ⟨pb3, qb3⟩, ⟨pb4, qb4⟩, ⟨pb5, qb5⟩, ⟨pb6, qb6⟩, ⟨pb7, qb7⟩⟩ := E8_open b
  obtain ⟨s0, s1, s2, s3, s4, s5, s6, s7, hs, es, ⟨ps0, qs0⟩, ⟨ps1, qs1⟩, ⟨ps2, qs2⟩, ⟨ps3, qs3⟩, ⟨ps4, qs4⟩, ⟨ps5, qs5⟩, ⟨ps6, qs6⟩, ⟨ps7, qs7⟩⟩ := E8_open (a + b)
  have va : val [a0, a1, a2, a3, a4, a5, a6, a7] = a := by rw [← ha_, val_E8 ha0 (by omega)]
  have vb : val [b0, b1, b2, b3, b4, b5, b6, b7] = b := by rw [← hb_, val_E8 hb0 (by omega)]
  have v1 : val [a0 + b0, a1 + b1, a2 + b2, a3 + b3, a4 + b4, a5 + b5, a6 + b6, a7 + b7] = a + b := by rw [← va, ← vb]; simp only [val]; omega
  have hc : cy 8 (a + b) = 1 := by
    rw [cy_eq, pow8]
    simp only [R256, ordN] at *
    omega
  have vs : val [s0, s1, s2, s3, s4, s5, s6, s7] = a + b - R256 * 1 := by rw [← hs, val_digs, hc, pow8]
  have c1 : ∀ w, Calls Try.prog 19 #[.agg #[.int .i64 (a0 + b0), .int .i64 (a1 + b1), .int .i64 (a2 + b2), .int .i64 (a3 + b3), .int .i64 (a4 + b4), .int .i64 (a5 + b5), .int .i64 (a6 + b6), .int .i64 (a7 + b7)]] w fun e w' => e = .returned (.tuple #[.agg #[.int .i64 s0, .int .i64 s1, .int .i64 s2, .int .i64 s3, .int .i64 s4, .int .i64 s5, .int .i64 s6, .int .i64 s7], .int .i64 1]) ∧ Ext w w' := fun w => by
    have h := carried_any [a0 + b0, a1 + b1, a2 + b2, a3 + b3, a4 + b4, a5 + b5, a6 + b6, a7 + b7] rfl (by
      intro x hx
      simp only [List.mem_cons, List.not_mem_nil, or_false] at hx
      rcases hx with rfl | rfl | rfl | rfl | rfl | rfl | rfl | rfl <;> omega) w
    rw [v1, hc, es] at h
    exact h
  have C1 := Lib.hid c1
  clear c1
  obtain ⟨t0, t1, t2, t3, t4, t5, t6, t7, ht, et, ⟨pt0, qt0⟩, ⟨pt1, qt1⟩, ⟨pt2, qt2⟩, ⟨pt3, qt3⟩, ⟨pt4, qt4⟩, ⟨pt5, qt5⟩, ⟨pt6, qt6⟩, ⟨pt7, qt7⟩⟩ := E8_open (a + b - ordN)
  have v2 : val [s0 - 4234356049, s1 - 4089039554, s2 - 2803342980, s3 - 3169254061, s4 - 4294967295, s5 - 4294967295, s6, s7 - 4294967295] = a + b - ordN + 4294967296 ^ 8 * (-1) := by
    have e : val [s0 - 4234356049, s1 - 4089039554, s2 - 2803342980, s3 - 3169254061, s4 - 4294967295, s5 - 4294967295, s6, s7 - 4294967295] = val [s0, s1, s2, s3, s4, s5, s6, s7] - ordN := by simp only [val, ordN]; omega
    rw [e, vs, pow8]; omega
  have c2 : ∀ w, Calls Try.prog 19 #[.agg #[.int .i64 (s0 - 4234356049), .int .i64 (s1 - 4089039554), .int .i64 (s2 - 2803342980), .int .i64 (s3 - 3169254061), .int .i64 (s4 - 4294967295), .int .i64 (s5 - 4294967295), .int .i64 s6, .int .i64 (s7 - 4294967295)]] w fun e w' => e = .returned (.tuple #[.agg #[.int .i64 t0, .int .i64 t1, .int .i64 t2, .int .i64 t3, .int .i64 t4, .int .i64 t5, .int .i64 t6, .int .i64 t7], .int .i64 (cy 8 (a + b - ordN + 4294967296 ^ 8 * (-1)))]) ∧ Ext w w' := fun w => by
    have h := carried_any [s0 - 4234356049, s1 - 4089039554, s2 - 2803342980, s3 - 3169254061, s4 - 4294967295, s5 - 4294967295, s6, s7 - 4294967295] rfl (by
      intro x hx
      simp only [List.mem_cons, List.not_mem_nil, or_false] at hx
      rcases hx with rfl | rfl | rfl | rfl | rfl | rfl | rfl | rfl <;> omega) w
    rw [v2, E8, digs_mod, ← E8, et] at h
    exact h
  generalize cy 8 (a + b - ordN + 4294967296 ^ 8 * (-1)) = c9 at c2
  have C2 := Lib.hid c2
  clear c2 v2
  have hf : ordAdd a b = a + b - ordN := by unfold ordAdd; exact if_neg (by omega)
  rw [hf, ea, eb, et]
  clear va vb v1 hc vs hs ht ha_ hb_ hf ea eb es et hR ha0 ha hb0 hb  hr
  go_enter Try.func15, Try.ntmps15
  go_wp2_with (go_at_call 13; refine (Order_lit _).mono ?_; rintro e w' ⟨rfl, g1, rfl⟩)
  refine wp_loop_rounds 9 ?_
  iterate 8 (rw [rounds_succ]; go_wp2_with (refine wp_quiet_tail (l := [_, _, _, _, _, _, _, _, _, _]) 9 (by kernel_rfl) (by kernel_rfl) ?_; simp only [List.take_succ_cons, List.take_zero, List.drop_succ_cons, List.drop_zero]; (repeat (first | go_big_quiet_skip | (go_big_quiet_want; go_big_quiet_op; first | go_big_quiet_on))); refine wpQuiet_nil ?_; intro _ hw'; obtain ⟨nq, hw''⟩ := hw'; subst hw''))
  rw [rounds_succ]
  go_wp2_with (first | (go_at_call 19; (with_reducible refine (C1.out _).mono ?_); rintro e w' ⟨rfl, g2, rfl⟩))
  refine wp_loop_rounds 9 ?_
  iterate 8 (rw [rounds_succ]; go_wp2_with (refine wp_quiet_tail (l := [_, _, _, _, _, _, _, _, _]) 8 (by kernel_rfl) (by kernel_rfl) ?_; simp only [List.take_succ_cons, List.take_zero, List.drop_succ_cons, List.drop_zero]; (repeat (first | go_big_quiet_skip | (go_big_quiet_want; go_big_quiet_op; first | go_big_quiet_on))); refine wpQuiet_nil ?_; intro _ hw'; obtain ⟨nq, hw''⟩ := hw'; subst hw''))
  rw [rounds_succ]
  go_wp2_with (go_at_call 19; (with_reducible refine (C2.out _).mono ?_); rintro e w' ⟨rfl, g4, rfl⟩)
  refine bodyPost_ret (v := ?vr) (by simp [results, Try.results15, go_sem]; rfl) rfl ⟨?_, ?_⟩
  · rfl
  · (refine Ext.of_below ?_; (repeat (first | exact Below.refl _ _ | refine below_drewN' ?_ _ | refine below_ext ?_ (by simp <;> omega) _ | apply Below.drew | refine Below.setCell ?_ (by simp <;> omega) _ | refine Below.alloc ?_ (by simp <;> omega) _)))

theorem sumBelow_any (a b : Int) (ha0 : 0 ≤ a) (ha : a < ordN) (hb0 : 0 ≤ b) (hb : b < ordN) (w : World) :
    Calls Try.prog 15 #[E8 a, E8 b] w fun e w' => e = .returned (E8 (ordAdd a b)) ∧ Ext w w' := by
  by_cases hr : a + b < R256
  · by_cases hn : a + b < ordN
    · exact sumBelow_low a b ha0 ha hb0 hb hr hn w
    · exact sumBelow_mid a b ha0 ha hb0 hb hr hn w
  · exact sumBelow_ovf a b ha0 ha hb0 hb hr w
end Go.Proofs.Ytlpmkpnjconcdaa
