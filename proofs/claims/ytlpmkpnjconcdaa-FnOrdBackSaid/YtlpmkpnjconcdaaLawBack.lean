/-
  What FnOrdBack says: for every four words that are a number below the order, the way into Montgomery form and back leads to the number, and so does the way out and in.
  Conditions: none.
-/
import Derived.Test.YtlpmkpnjconcdaaRows
import Derived.Test.YtlpmkpnjconcdaaOrdinal
import Derived.Test.YtlpmkpnjconcdaaOrdZ
import Derived.Test.YtlpmkpnjconcdaaArrEq
import Derived.WalkKit
import Derived.WalkSpells
import Derived.Outline
import Derived.ProofKit
import Derived.OpenShut
namespace Go.Proofs.Ytlpmkpnjconcdaa.fnOrdBack
open Go.ChangeShapes Go.WideShapes Go.ChangeAt Go.RowKit
set_option linter.unusedSimpArgs false
set_option linter.unusedVariables false

theorem cancel (D E : Int) (h : D * 115792089237316195423570985008687907853269984665640564039457584007913129639936 = E * 115792089210356248762697446949407573529996955224135760342422259061068512044369) : D = (43790243014242295660885426880012836369732278457577312309071968676491870960761 * E - 43790243024438006127650828685417305984841428635278707415088219106730833919055 * D) * 115792089210356248762697446949407573529996955224135760342422259061068512044369 := by
  have h1 : D = 43790243014242295660885426880012836369732278457577312309071968676491870960761 * (D * 115792089237316195423570985008687907853269984665640564039457584007913129639936) - (43790243024438006127650828685417305984841428635278707415088219106730833919055 * D) * 115792089210356248762697446949407573529996955224135760342422259061068512044369 := by clear h; omega
  rw [h] at h1
  have h2 : 43790243014242295660885426880012836369732278457577312309071968676491870960761 * (E * 115792089210356248762697446949407573529996955224135760342422259061068512044369) - (43790243024438006127650828685417305984841428635278707415088219106730833919055 * D) * 115792089210356248762697446949407573529996955224135760342422259061068512044369 = (43790243014242295660885426880012836369732278457577312309071968676491870960761 * E - 43790243024438006127650828685417305984841428635278707415088219106730833919055 * D) * 115792089210356248762697446949407573529996955224135760342422259061068512044369 := by clear h h1; omega
  exact h1.trans h2
theorem zero_of (D z : Int) (h : D = z * 115792089210356248762697446949407573529996955224135760342422259061068512044369) (h0 : -115792089210356248762697446949407573529996955224135760342422259061068512044369 < D) (h1 : D < 115792089210356248762697446949407573529996955224135760342422259061068512044369) : D = 0 := by
  have hz : z = 0 := by omega
  rw [hz] at h; omega

theorem from_to (A P q R q2 : Int) (hA0 : 0 ≤ A) (hA1 : A < ordN) (hP : P = A * R256 + q * ordN) (hR0 : 0 ≤ R) (hR1 : R < ordN) (h : R * R256 = P + q2 * ordN) : R = A := by
  simp only [R256, ordN] at *
  have e : (R - A) * 115792089237316195423570985008687907853269984665640564039457584007913129639936 = (q + q2) * 115792089210356248762697446949407573529996955224135760342422259061068512044369 := by rw [Int.sub_mul, Int.add_mul, h, hP]; clear h hP; omega
  have z := zero_of (R - A) _ (cancel (R - A) (q + q2) e) (by clear e h hP; omega) (by clear e h hP; omega)
  clear e h hP
  omega
theorem to_from (A Q q R q2 : Int) (hA0 : 0 ≤ A) (hA1 : A < ordN) (hQ : Q * R256 = A + q * ordN) (hR0 : 0 ≤ R) (hR1 : R < ordN) (h : R = Q * R256 + q2 * ordN) : R = A := by
  simp only [R256, ordN] at *
  rw [hQ] at h
  have z := zero_of (R - A) (q + q2) (by rw [Int.add_mul, h]; clear h hQ; omega) (by clear h hQ; omega) (by clear h hQ; omega)
  clear h hQ
  omega

theorem eq4 (w : World) (x0 x1 x2 x3 : Int) : (binOp .eql 23 (.agg #[.int .u64 x0, .int .u64 x1, .int .u64 x2, .int .u64 x3]) (.agg #[.int .u64 x0, .int .u64 x1, .int .u64 x2, .int .u64 x3])).run Try.prog w = .ok (.bool true) w := by
  have h := run_eql_ints (P := Try.prog) w 23 22 4 .u64 Try.underlying23 Try.underlying22 (fun w => by simp [go_sem]) [x0, x1, x2, x3] [x0, x1, x2, x3] rfl rfl
  rw [decide_eq_true rfl] at h
  exact h

set_option maxHeartbeats 2000000 in
theorem rsh_one (w : World) : Calls Try.prog 10 #[.agg #[.int .u64 1, .int .u64 0, .int .u64 0, .int .u64 0], .int .i64 0] w fun e w' => e = .returned (.int .u64 1) ∧ Ext w w' := by
  go_enter Try.func10, Try.ntmps10
  go_wp2
  go_ret
  refine ⟨rfl, ?_⟩
  (refine Ext.of_below ?_; (repeat (first | exact Below.refl _ _ | refine below_drewN' ?_ _ | refine below_ext ?_ (by simp <;> omega) _ | apply Below.drew | refine Below.setCell ?_ (by simp <;> omega) _ | refine Below.alloc ?_ (by simp <;> omega) _)))

theorem to_one (A P q R q2 : Int) (hP0 : 0 ≤ P) (hP1 : P < ordN) (hP : P = A * R256 + q * ordN) (hR0 : 0 ≤ R) (hR1 : R < ordN) (h : R = A * R256 + q2 * ordN) : R = P := by
  simp only [R256, ordN] at *
  have z := zero_of (R - P) (q2 - q) (by rw [Int.sub_mul, h, hP]; clear h hP; omega) (by clear h hP; omega) (by clear h hP; omega)
  clear h hP
  omega
theorem from_one (A P q R q2 : Int) (hP0 : 0 ≤ P) (hP1 : P < ordN) (hP : P * R256 = A + q * ordN) (hR0 : 0 ≤ R) (hR1 : R < ordN) (h : R * R256 = A + q2 * ordN) : R = P := by
  simp only [R256, ordN] at *
  have e : (R - P) * 115792089237316195423570985008687907853269984665640564039457584007913129639936 = (q2 - q) * 115792089210356248762697446949407573529996955224135760342422259061068512044369 := by rw [Int.sub_mul, Int.sub_mul, h, hP]; clear h hP; omega
  have z := zero_of (R - P) _ (cancel (R - P) (q2 - q) e) (by clear e h hP; omega) (by clear e h hP; omega)
  clear e h hP
  omega
theorem there (A : Int) (w : World) (h0 : 0 ≤ A) (h1 : A < R256) : (∃ P q : Int, 0 ≤ P ∧ P < ordN ∧ P = A * R256 + q * ordN) ∧ (∃ P q : Int, 0 ≤ P ∧ P < ordN ∧ P * R256 = A + q * ordN) := by
  have m1 := Int.emod_add_mul_ediv (A * R256) ordN
  have m2 := Int.emod_add_mul_ediv (A * 43790243014242295660885426880012836369732278457577312309071968676491870960761) ordN
  have k1 := Int.emod_nonneg (A * R256) (b := ordN) (by decide)
  have k2 := Int.emod_lt_of_pos (A * R256) (b := ordN) (by decide)
  have k3 := Int.emod_nonneg (A * 43790243014242295660885426880012836369732278457577312309071968676491870960761) (b := ordN) (by decide)
  have k4 := Int.emod_lt_of_pos (A * 43790243014242295660885426880012836369732278457577312309071968676491870960761) (b := ordN) (by decide)
  refine ⟨⟨_, -(A * R256 / ordN), k1, k2, ?_⟩, ⟨_, A * 43790243024438006127650828685417305984841428635278707415088219106730833919055 - (A * 43790243014242295660885426880012836369732278457577312309071968676491870960761 / ordN) * R256, k3, k4, ?_⟩⟩
  · clear m2 k3 k4 k1 k2
    generalize A * R256 / ordN = z at *
    generalize A * R256 % ordN = y at *
    simp only [R256, ordN] at *
    omega
  · clear m1 k1 k2 k3 k4
    generalize A * 43790243014242295660885426880012836369732278457577312309071968676491870960761 / ordN = z at *
    generalize A * 43790243014242295660885426880012836369732278457577312309071968676491870960761 % ordN = y at *
    simp only [R256, ordN] at *
    have e : y = A * 43790243014242295660885426880012836369732278457577312309071968676491870960761 - 115792089210356248762697446949407573529996955224135760342422259061068512044369 * z := by omega
    rw [e]
    clear e m2
    rw [Int.sub_mul, Int.sub_mul]
    omega

set_option maxHeartbeats 4000000 in
set_option maxRecDepth 100000 in
theorem walk_in (A : Int) (h0 : 0 ≤ A) (h1 : A < R256) (hn : A < ordN) (w : World) :
    Calls Try.prog 5 #[L4 A] w fun e w' => e = .returned (.bool true) ∧ Below w.heap.size w w' := by
  obtain ⟨d0, d1, d2, d3, hd, he, _⟩ := L4_open A
  obtain ⟨x0, x1, x2, x3, x4, x5, x6, x7, hx, ex, _⟩ := E8_open A
  obtain ⟨⟨P, qp, hP0, hP1, hP⟩, ⟨Q, qq, hQ0, hQ1, hQ⟩⟩ := there A w h0 h1
  obtain ⟨p0, p1, p2, p3, hp, ep, _⟩ := L4_open P
  obtain ⟨q0, q1, q2, q3, hq, eq, _⟩ := L4_open Q
  have hNR : ordN < R256 := by decide
  have c1 : ∀ w, Calls Try.prog 6 #[.agg #[.int .u64 d0, .int .u64 d1, .int .u64 d2, .int .u64 d3]] w fun e w' => e = .returned (.tuple #[.agg #[.int .i64 x0, .int .i64 x1, .int .i64 x2, .int .i64 x3, .int .i64 x4, .int .i64 x5, .int .i64 x6, .int .i64 x7], .bool true]) ∧ Ext w w' := fun w => by
    have h := ordinal_any A h0 h1 w
    rw [he, ex, decide_eq_true hn] at h
    exact h
  have t1 : ∀ w, Calls Try.prog 9 #[.agg #[.int .u64 d0, .int .u64 d1, .int .u64 d2, .int .u64 d3]] w fun e w' => e = .returned (.agg #[.int .u64 p0, .int .u64 p1, .int .u64 p2, .int .u64 p3]) ∧ Ext w w' := fun w => by
    have h := OrdToMontgomery_any A h0 h1 w
    rw [he] at h
    exact h.mono fun e w' ⟨R, h2, h3, h4, ⟨z, h5⟩, h6⟩ => ⟨by rw [h2, to_one A P qp R z hP0 hP1 hP h3 h4 h5, ep], h6⟩
  have f1 : ∀ w, Calls Try.prog 7 #[.agg #[.int .u64 p0, .int .u64 p1, .int .u64 p2, .int .u64 p3]] w fun e w' => e = .returned (.agg #[.int .u64 d0, .int .u64 d1, .int .u64 d2, .int .u64 d3]) ∧ Ext w w' := fun w => by
    have h := OrdFromMontgomery_any P hP0 (Int.lt_trans hP1 hNR) w
    rw [ep] at h
    exact h.mono fun e w' ⟨R, h2, h3, h4, ⟨z, h5⟩, h6⟩ => ⟨by rw [h2, from_to A P qp R z h0 hn hP h3 h4 h5, he], h6⟩
  have f2 : ∀ w, Calls Try.prog 7 #[.agg #[.int .u64 d0, .int .u64 d1, .int .u64 d2, .int .u64 d3]] w fun e w' => e = .returned (.agg #[.int .u64 q0, .int .u64 q1, .int .u64 q2, .int .u64 q3]) ∧ Ext w w' := fun w => by
    have h := OrdFromMontgomery_any A h0 h1 w
    rw [he] at h
    exact h.mono fun e w' ⟨R, h2, h3, h4, ⟨z, h5⟩, h6⟩ => ⟨by rw [h2, from_one A Q qq R z hQ0 hQ1 hQ h3 h4 h5, eq], h6⟩
  have t2 : ∀ w, Calls Try.prog 9 #[.agg #[.int .u64 q0, .int .u64 q1, .int .u64 q2, .int .u64 q3]] w fun e w' => e = .returned (.agg #[.int .u64 d0, .int .u64 d1, .int .u64 d2, .int .u64 d3]) ∧ Ext w w' := fun w => by
    have h := OrdToMontgomery_any Q hQ0 (Int.lt_trans hQ1 hNR) w
    rw [eq] at h
    exact h.mono fun e w' ⟨R, h2, h3, h4, ⟨z, h5⟩, h6⟩ => ⟨by rw [h2, to_from A Q qq R z h0 hn hQ h3 h4 h5, he], h6⟩
  have C1 := Lib.hid c1
  have T1 := Lib.hid t1
  have F1 := Lib.hid f1
  have F2 := Lib.hid f2
  have T2 := Lib.hid t2
  have hq4 := eq4
  rw [he]
  clear c1 t1 f1 f2 t2 hd he hx ex h0 h1 hn hP0 hP1 hP hQ0 hQ1 hQ hp ep hq eq hNR
  go_enter Try.func5, Try.ntmps5
  go_wp2_with (go_at_call 6; (with_reducible refine (C1.out _).mono ?_); rintro e w' ⟨rfl, g1, rfl⟩)
  refine wp_grow (by kernel_rfl) (by kernel_rfl) ?_
  repeat (first | go_big_quiet_skip | (go_big_quiet_want; go_big_quiet_op; first | go_big_quiet_on | go_big_quiet_call ((first
    | (go_at_call 9; first | exact calls_grow (T1.out _) | exact calls_grow (T2.out _))
    | (go_at_call 7; first | exact calls_grow (F1.out _) | exact calls_grow (F2.out _))
    | (go_at_call 10; exact calls_grow (rsh_one _))))))
  refine wpQuiet_nil ?_
  intro _ hw'
  obtain ⟨g', hw''⟩ := hw'
  subst hw''
  go_wp2
  go_ret
  refine ⟨rfl, ?_⟩
  (repeat (first | exact Below.refl _ _ | refine below_drewN' ?_ _ | refine below_ext ?_ (by simp <;> omega) _ | apply Below.drew | refine Below.setCell ?_ (by simp <;> omega) _ | refine Below.alloc ?_ (by simp <;> omega) _))

set_option maxHeartbeats 4000000 in
set_option maxRecDepth 100000 in
theorem walk_out (A : Int) (h0 : 0 ≤ A) (h1 : A < R256) (hn : ¬ A < ordN) (w : World) :
    Calls Try.prog 5 #[L4 A] w fun e w' => e = .returned (.bool true) ∧ Below w.heap.size w w' := by
  obtain ⟨d0, d1, d2, d3, hd, he, _⟩ := L4_open A
  obtain ⟨x0, x1, x2, x3, x4, x5, x6, x7, hx, ex, _⟩ := E8_open A
  have c1 : ∀ w, Calls Try.prog 6 #[.agg #[.int .u64 d0, .int .u64 d1, .int .u64 d2, .int .u64 d3]] w fun e w' => e = .returned (.tuple #[.agg #[.int .i64 x0, .int .i64 x1, .int .i64 x2, .int .i64 x3, .int .i64 x4, .int .i64 x5, .int .i64 x6, .int .i64 x7], .bool false]) ∧ Ext w w' := fun w => by
    have h := ordinal_any A h0 h1 w
    rw [he, ex, decide_eq_false hn] at h
    exact h
  have C1 := Lib.hid c1
  rw [he]
  clear c1 hd he hx ex h0 h1 hn
  go_enter Try.func5, Try.ntmps5
  go_wp2_with (go_at_call 6; (with_reducible refine (C1.out _).mono ?_); rintro e w' ⟨rfl, g1, rfl⟩)
  refine wp_grow (by kernel_rfl) (by kernel_rfl) ?_
  repeat (first | go_big_quiet_skip | (go_big_quiet_want; go_big_quiet_op; first | go_big_quiet_on))
  refine wpQuiet_nil ?_
  intro _ hw'
  obtain ⟨g', hw''⟩ := hw'
  subst hw''
  go_wp2
  go_ret
  refine ⟨rfl, ?_⟩
  (repeat (first | exact Below.refl _ _ | refine below_drewN' ?_ _ | refine below_ext ?_ (by simp <;> omega) _ | apply Below.drew | refine Below.setCell ?_ (by simp <;> omega) _ | refine Below.alloc ?_ (by simp <;> omega) _))

theorem walk (l : List Int) (hl : l.length = 4) (hw : ∀ x ∈ l, (Lit.int .u64 x).wf = true) (w : World) :
    Calls Try.prog 5 #[.agg (l.map (Value.int .u64)).toArray] w fun e w' => e = .returned (.bool true) ∧ Below w.heap.size w w' := by
  have hb : ∀ x ∈ l, 0 ≤ x ∧ x < 18446744073709551616 := fun x hx => by
    have := bounds_u64 (hw x hx)
    omega
  have hq := qal_bd4 l hl hb
  rw [L4_val l hl hb]
  by_cases hn : qal l < ordN
  · exact walk_in (qal l) hq.1 hq.2 hn w
  · exact walk_out (qal l) hq.1 hq.2 hn w

theorem own : ownKnob Try.prog.godebug = none := by kernel_rfl
theorem laidOut : laidOutB Try.prog = true := by kernel_rfl

set_option maxRecDepth 100000 in
theorem lifted (os : Os) (started : os.Started) (H : Type) (enc : TypeId × Value → H) :
    ReturnsInHanded {} Try.checked os 5 .any (Rows.fnOrdBackSpec.pre6 enc Try.prog Try.f5 Rows.fnOrdBackRow.domain false) (Rows.fnOrdBackSpec.post enc Try.prog Try.f5 false true false false) := by
  refine returnsInHanded_of_change (C := Try.checked) own started (by kernel_rfl) Try.func5
    (ChangeSpec.witness6 (enc := enc) (C := Try.checked) false ⟨#[], #[.agg #[.int .u64 0, .int .u64 0, .int .u64 0, .int .u64 0]], []⟩ 8 (by kernel_rfl) (by kernel_rfl) (by kernel_rfl) (by kernel_rfl)) ?_
  intro W base args ds gs before hval0 hW _ _
  have hval : ∀ (j : Nat) t v, Try.f5.params[j]? = some t → args[j]? = some v → Value.okWide Try.prog W .any base t v := hval0
  have hW' := hW
  obtain ⟨p, q, hA0, _, rfl, _, _⟩ := hW
  have hA : DataW.TrodAll enc Try.prog W 0 (fun _ => true) true Try.f5.params.toList args.toList ds p := hA0
  rw [Try.params5] at hA hval
  obtain ⟨v0, vs0, d0, ds0, p0, q0, hargs, rfl, rfl, h0, r0⟩ := trodAll_cons hA
  obtain ⟨rfl, rfl, rfl⟩ := trodAll_nil r0
  obtain rfl : args = #[v0] := by cases args; simp_all
  obtain ⟨a0, rfl, l0, w0⟩ := okWide_ints 22 Try.underlying23 (by kernel_rfl) (by kernel_rfl) Try.underlying22 (hval 0 23 v0 rfl rfl)
  clear hA0 hval0
  refine (walk a0 l0 w0 W).mono fun e W' ⟨he, hg⟩ => ?_
  subst he
  exact ⟨_, rfl, law_post laidOut hW' rfl rfl Try.underlying4 rfl (by kernel_rfl) hg⟩

theorem over : Rows.fnOrdBackRow.holds Try.pinned (OpenSpec.ofChange Rows.fnOrdBackSpec) :=
  OpenClaim.holds_of_wide 5 Try.f5 rfl rfl rfl rfl rfl rfl rfl ⟨rfl, rfl, rfl, rfl, rfl⟩ rfl rfl rfl rfl rfl (by kernel_rfl) Try.func5 (by kernel_rfl)
    (of_decide_eq_true (by kernel_rfl)) (by unfold Func.isWrapper; first | (rw [if_pos (by decide +kernel)]; kernel_rfl) | (rw [if_neg (by decide +kernel)]; exact ⟨rfl, rfl⟩))
    (fun os started H enc _ => lifted os started H enc)

/-- THE STATEMENT. -/
theorem proved : Rows.FnOrdBackSaid :=
  over
#print axioms proved
end Go.Proofs.Ytlpmkpnjconcdaa.fnOrdBack
