/-
  What FnOrdToMontgomery says: for every four words that are a number below the order, the words told are below the order, and are that number times 2^256, modulo the order.
  Conditions: none.
-/
import Derived.Test.YtlpmkpnjconcdaaRows
import Derived.Test.YtlpmkpnjconcdaaOrdinal
import Derived.Test.YtlpmkpnjconcdaaOrdZ
import Derived.Test.YtlpmkpnjconcdaaSpecT
import Derived.Test.YtlpmkpnjconcdaaArrEq
import Derived.WalkKit
import Derived.WalkSpells
import Derived.Outline
import Derived.ProofKit
import Derived.OpenShut
namespace Go.Proofs.Ytlpmkpnjconcdaa.fnOrdToMontgomery
open Go.ChangeShapes Go.WideShapes Go.ChangeAt Go.RowKit
set_option linter.unusedSimpArgs false
set_option linter.unusedVariables false

theorem back (A R q : Int) (hA0 : 0 ≤ A) (hA1 : A < ordN) (hR0 : 0 ≤ R) (hR1 : R < ordN) (h : R = A * R256 + q * ordN) : dbl A 256 = R := by
  obtain ⟨q', h'⟩ := dbl_mod A 256
  have hb := dbl_bd A hA0 hA1 256
  have e : (2 : Int) ^ 256 = R256 := by decide
  rw [e] at h'
  generalize dbl A 256 = d at *
  have h2 : d - R = (q' - q) * ordN := by rw [Int.sub_mul]; omega
  generalize q' - q = z at h2
  have hz : z = 0 := by
    simp only [ordN] at *
    omega
  rw [hz] at h2
  omega

theorem eq8 (w : World) (x0 x1 x2 x3 x4 x5 x6 x7 : Int) : (binOp .eql 25 (.agg #[.int .i64 x0, .int .i64 x1, .int .i64 x2, .int .i64 x3, .int .i64 x4, .int .i64 x5, .int .i64 x6, .int .i64 x7]) (.agg #[.int .i64 x0, .int .i64 x1, .int .i64 x2, .int .i64 x3, .int .i64 x4, .int .i64 x5, .int .i64 x6, .int .i64 x7])).run Try.prog w = .ok (.bool true) w := by
  have h := run_eql_ints (P := Try.prog) w 25 2 8 .i64 Try.underlying25 Try.underlying2 (fun w => by simp [go_sem]) [x0, x1, x2, x3, x4, x5, x6, x7] [x0, x1, x2, x3, x4, x5, x6, x7] rfl rfl
  rw [decide_eq_true rfl] at h
  exact h

set_option maxHeartbeats 4000000 in
set_option maxRecDepth 100000 in
theorem walk_out (A : Int) (h0 : 0 ≤ A) (h1 : A < R256) (hn : ¬ A < ordN) (w : World) :
    Calls Try.prog 4 #[L4 A] w fun e w' => e = .returned (.bool true) ∧ Below w.heap.size w w' := by
  obtain ⟨d0, d1, d2, d3, hd, he, _⟩ := L4_open A
  obtain ⟨x0, x1, x2, x3, x4, x5, x6, x7, hx, ex, _⟩ := E8_open A
  have c1 : ∀ w, Calls Try.prog 6 #[.agg #[.int .u64 d0, .int .u64 d1, .int .u64 d2, .int .u64 d3]] w fun e w' => e = .returned (.tuple #[.agg #[.int .i64 x0, .int .i64 x1, .int .i64 x2, .int .i64 x3, .int .i64 x4, .int .i64 x5, .int .i64 x6, .int .i64 x7], .bool false]) ∧ Ext w w' := fun w => by
    have h := ordinal_any A h0 h1 w
    rw [he, ex, decide_eq_false hn] at h
    exact h
  have C1 := Lib.hid c1
  rw [he]
  clear c1 hd he hx ex h0 h1 hn
  go_enter Try.func4, Try.ntmps4
  go_wp2_with (go_at_call 6; (with_reducible refine (C1.out _).mono ?_); rintro e w' ⟨rfl, g1, rfl⟩)
  go_ret
  refine ⟨rfl, ?_⟩
  (repeat (first | exact Below.refl _ _ | refine below_drewN' ?_ _ | refine below_ext ?_ (by simp <;> omega) _ | apply Below.drew | refine Below.setCell ?_ (by simp <;> omega) _ | refine Below.alloc ?_ (by simp <;> omega) _))

set_option maxHeartbeats 4000000 in
set_option maxRecDepth 100000 in
theorem walk_in (A : Int) (h0 : 0 ≤ A) (h1 : A < R256) (hn : A < ordN) (w : World) :
    Calls Try.prog 4 #[L4 A] w fun e w' => e = .returned (.bool true) ∧ Below w.heap.size w w' := by
  obtain ⟨d0, d1, d2, d3, hd, he, _⟩ := L4_open A
  obtain ⟨x0, x1, x2, x3, x4, x5, x6, x7, hx, ex, _⟩ := E8_open A
  have c1 : ∀ w, Calls Try.prog 6 #[.agg #[.int .u64 d0, .int .u64 d1, .int .u64 d2, .int .u64 d3]] w fun e w' => e = .returned (.tuple #[.agg #[.int .i64 x0, .int .i64 x1, .int .i64 x2, .int .i64 x3, .int .i64 x4, .int .i64 x5, .int .i64 x6, .int .i64 x7], .bool true]) ∧ Ext w w' := fun w => by
    have h := ordinal_any A h0 h1 w
    rw [he, ex, decide_eq_true hn] at h
    exact h
  have c2 := fun w => OrdToMontgomery_any A h0 h1 w
  rw [he] at c2
  have C1 := Lib.hid c1
  have C2 := Lib.hid c2
  have HA := Lib.hid (And.intro h0 (And.intro hn ex))
  have hq := eq8
  rw [he]
  clear c1 c2 hd he hx ex h0 h1 hn
  go_enter Try.func4, Try.ntmps4
  go_wp2_with (first
    | (go_at_call 6; (with_reducible refine (C1.out _).mono ?_); rintro e w' ⟨rfl, g1, rfl⟩)
    | (go_at_call 6; (with_reducible refine (C3.out _).mono ?_); rintro e w' ⟨rfl, g3, rfl⟩)
    | (go_at_call 9; (with_reducible refine (C2.out _).mono ?_); rintro e w' ⟨R, rfl, hR0, hR1, hRq, g2, rfl⟩; obtain ⟨r0, r1, r2, r3, hr, er, _⟩ := L4_open R; obtain ⟨y0, y1, y2, y3, y4, y5, y6, y7, hy, ey, _⟩ := E8_open R; rw [er]; have HF := Lib.hid (And.intro hR0 (And.intro hR1 (And.intro hRq (And.intro er ey)))); have C3 : Hid (∀ w, Calls Try.prog 6 #[.agg #[.int .u64 r0, .int .u64 r1, .int .u64 r2, .int .u64 r3]] w fun e w' => e = .returned (.tuple #[.agg #[.int .i64 y0, .int .i64 y1, .int .i64 y2, .int .i64 y3, .int .i64 y4, .int .i64 y5, .int .i64 y6, .int .i64 y7], .bool true]) ∧ Ext w w') := Lib.hid (fun w => (by have h := ordinal_any R hR0 (Int.lt_trans hR1 (by decide)) w; rw [er, ey, decide_eq_true hR1] at h; exact h)); have C4 : Hid (∀ w, Calls Try.prog 8 #[.agg #[.int .i64 x0, .int .i64 x1, .int .i64 x2, .int .i64 x3, .int .i64 x4, .int .i64 x5, .int .i64 x6, .int .i64 x7]] w fun e w' => e = .returned (.agg #[.int .i64 y0, .int .i64 y1, .int .i64 y2, .int .i64 y3, .int .i64 y4, .int .i64 y5, .int .i64 y6, .int .i64 y7]) ∧ Ext w w') := Lib.hid (fun w => (by have h := OrdShifted_any A HA.out.1 HA.out.2.1 w; obtain ⟨q, hq'⟩ := hRq; rw [back A R q HA.out.1 HA.out.2.1 hR0 hR1 hq', ey, HA.out.2.2] at h; exact h)); clear hR0 hR1 hRq hr er hy ey))
  refine wp_grow (by kernel_rfl) (by kernel_rfl) ?_
  repeat (first | go_big_quiet_skip | (go_big_quiet_want; go_big_quiet_op; first | go_big_quiet_on | go_big_quiet_call ((go_at_call 8; exact calls_grow (C4.out _)))))
  refine wpQuiet_nil ?_
  intro _ hw'
  obtain ⟨g', hw''⟩ := hw'
  subst hw''
  go_wp2
  go_ret
  refine ⟨rfl, ?_⟩
  (repeat (first | exact Below.refl _ _ | refine below_drewN' ?_ _ | refine below_ext ?_ (by simp <;> omega) _ | apply Below.drew | refine Below.setCell ?_ (by simp <;> omega) _ | refine Below.alloc ?_ (by simp <;> omega) _))

theorem walk (l : List Int) (hl : l.length = 4) (hw : ∀ x ∈ l, (Lit.int .u64 x).wf = true) (w : World) :
    Calls Try.prog 4 #[.agg (l.map (Value.int .u64)).toArray] w fun e w' => e = .returned (.bool true) ∧ Below w.heap.size w w' := by
  have hb : ∀ x ∈ l, 0 ≤ x ∧ x < 18446744073709551616 := fun x hx => by
    have := bounds_u64 (hw x hx)
    omega
  have hq := qal_bd4 l hl hb
  rw [L4_val l hl hb]
  by_cases hn : qal l < ordN
  · exact walk_in (qal l) hq.1 hq.2 hn w
  · exact walk_out (qal l) hq.1 hq.2 hn w

theorem own : ownKnob Try.prog.godebug = none := by kernel_rfl
theorem laidOut : laidOutB Try.prog = true := by kernel_rfl

set_option maxRecDepth 100000 in
theorem lifted (os : Os) (started : os.Started) (H : Type) (enc : TypeId × Value → H) :
    ReturnsInHanded {} Try.checked os 4 .any (Rows.fnOrdToMontgomerySpec.pre6 enc Try.prog Try.f4 Rows.fnOrdToMontgomeryRow.domain false) (Rows.fnOrdToMontgomerySpec.post enc Try.prog Try.f4 false true false false) := by
  refine returnsInHanded_of_change (C := Try.checked) own started (by kernel_rfl) Try.func4
    (ChangeSpec.witness6 (enc := enc) (C := Try.checked) false ⟨#[], #[.agg #[.int .u64 0, .int .u64 0, .int .u64 0, .int .u64 0]], []⟩ 8 (by kernel_rfl) (by kernel_rfl) (by kernel_rfl) (by kernel_rfl)) ?_
  intro W base args ds gs before hval0 hW _ _
  have hval : ∀ (j : Nat) t v, Try.f4.params[j]? = some t → args[j]? = some v → Value.okWide Try.prog W .any base t v := hval0
  have hW' := hW
  obtain ⟨p, q, hA0, _, rfl, _, _⟩ := hW
  have hA : DataW.TrodAll enc Try.prog W 0 (fun _ => true) true Try.f4.params.toList args.toList ds p := hA0
  rw [Try.params4] at hA hval
  obtain ⟨v0, vs0, d0, ds0, p0, q0, hargs, rfl, rfl, h0, r0⟩ := trodAll_cons hA
  obtain ⟨rfl, rfl, rfl⟩ := trodAll_nil r0
  obtain rfl : args = #[v0] := by cases args; simp_all
  obtain ⟨a0, rfl, l0, w0⟩ := okWide_ints 22 Try.underlying23 (by kernel_rfl) (by kernel_rfl) Try.underlying22 (hval 0 23 v0 rfl rfl)
  clear hA0 hval0
  refine (walk a0 l0 w0 W).mono fun e W' ⟨he, hg⟩ => ?_
  subst he
  exact ⟨_, rfl, law_post laidOut hW' rfl rfl Try.underlying4 rfl (by kernel_rfl) hg⟩

theorem over : Rows.fnOrdToMontgomeryRow.holds Try.pinned (OpenSpec.ofChange Rows.fnOrdToMontgomerySpec) :=
  OpenClaim.holds_of_wide 4 Try.f4 rfl rfl rfl rfl rfl rfl rfl ⟨rfl, rfl, rfl, rfl, rfl⟩ rfl rfl rfl rfl rfl (by kernel_rfl) Try.func4 (by kernel_rfl)
    (of_decide_eq_true (by kernel_rfl)) (by unfold Func.isWrapper; first | (rw [if_pos (by decide +kernel)]; kernel_rfl) | (rw [if_neg (by decide +kernel)]; exact ⟨rfl, rfl⟩))
    (fun os started H enc _ => lifted os started H enc)

/-- THE STATEMENT. -/
theorem proved : Rows.FnOrdToMontgomerySaid :=
  over
#print axioms proved
end Go.Proofs.Ytlpmkpnjconcdaa.fnOrdToMontgomery
