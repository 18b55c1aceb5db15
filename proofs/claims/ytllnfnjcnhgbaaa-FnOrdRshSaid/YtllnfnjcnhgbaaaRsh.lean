/-
  What FnOrdRsh says: for every four words and every n of a byte, the 64 lowest bits behind a shift by n are those that the definition tells.
  Conditions: none.
-/
import Derived.Test.YtllnfnjcnhgbaaaRows
import Derived.Test.YtllnfnjcnhgbaaaKit
import Derived.WalkKit
import Derived.WalkSpells
import Derived.ProofKit
import Derived.OpenShut
import Derived.Laws.BitsAllLaws
namespace Go.Proofs.Ytllnfnjcnhgbaaa.fnOrdRsh
open Go.ChangeShapes Go.WideShapes Go.ChangeAt Go.RowKit

theorem or_gone (s t : Int) (b0 : 0 ≤ s) (b1 : s < 18446744073709551616) : (bits BinOp.or IntKind.u64 s (IntKind.u64.wrap (t * 18446744073709551616)) == s) = true := by
  have e : IntKind.u64.wrap (t * 18446744073709551616) = 0 := by rw [IntKind.wrap_u64]; omega
  rw [e, u64_or s 0 b0 b1 (by decide) (by decide)]
  simp
  omega

set_option maxHeartbeats 400000 in
theorem walk00 (s0 s1 s2 s3 n : Int) (h0 : 0 ≤ n) (_h1 : n ≤ 255) (hq : n / 64 = 0) (hj : n % 64 = 0) (_b0 : 0 ≤ s0) (_b1 : s0 < 18446744073709551616)(w : World) :
    Calls Try.prog 3 #[.agg #[.int .u64 s0, .int .u64 s1, .int .u64 s2, .int .u64 s3], .int .u8 n] w fun e w' => e = .returned (.bool true) ∧ Below w.heap.size w w' := by
  go_enter Try.func3, Try.ntmps3
  go_wp2
  go_ret
  refine ⟨congrArg (fun b => Ending.returned (Value.bool b)) (or_gone s0 s1 _b0 _b1), ?_⟩
  repeat (first | exact Below.refl _ _ | apply Below.drew | refine Below.alloc ?_ (by simp <;> omega) _)

set_option maxHeartbeats 400000 in
theorem walk01 (s0 s1 s2 s3 n : Int) (j : Int) (h0 : 0 ≤ n) (_h1 : n ≤ 255) (hq : n / 64 = 0) (hj : n % 64 = j) (hj0 : 0 < j) (_hj1 : j < 64) (w : World) :
    Calls Try.prog 3 #[.agg #[.int .u64 s0, .int .u64 s1, .int .u64 s2, .int .u64 s3], .int .u8 n] w fun e w' => e = .returned (.bool true) ∧ Below w.heap.size w w' := by
  go_enter Try.func3, Try.ntmps3
  go_wp2
  go_ret
  refine ⟨rfl, ?_⟩
  repeat (first | exact Below.refl _ _ | apply Below.drew | refine Below.alloc ?_ (by simp <;> omega) _)

set_option maxHeartbeats 400000 in
theorem walk10 (s0 s1 s2 s3 n : Int) (h0 : 0 ≤ n) (_h1 : n ≤ 255) (hq : n / 64 = 1) (hj : n % 64 = 0) (_b0 : 0 ≤ s1) (_b1 : s1 < 18446744073709551616)(w : World) :
    Calls Try.prog 3 #[.agg #[.int .u64 s0, .int .u64 s1, .int .u64 s2, .int .u64 s3], .int .u8 n] w fun e w' => e = .returned (.bool true) ∧ Below w.heap.size w w' := by
  go_enter Try.func3, Try.ntmps3
  go_wp2
  go_ret
  refine ⟨congrArg (fun b => Ending.returned (Value.bool b)) (or_gone s1 s2 _b0 _b1), ?_⟩
  repeat (first | exact Below.refl _ _ | apply Below.drew | refine Below.alloc ?_ (by simp <;> omega) _)

set_option maxHeartbeats 400000 in
theorem walk11 (s0 s1 s2 s3 n : Int) (j : Int) (h0 : 0 ≤ n) (_h1 : n ≤ 255) (hq : n / 64 = 1) (hj : n % 64 = j) (hj0 : 0 < j) (_hj1 : j < 64) (w : World) :
    Calls Try.prog 3 #[.agg #[.int .u64 s0, .int .u64 s1, .int .u64 s2, .int .u64 s3], .int .u8 n] w fun e w' => e = .returned (.bool true) ∧ Below w.heap.size w w' := by
  go_enter Try.func3, Try.ntmps3
  go_wp2
  go_ret
  refine ⟨rfl, ?_⟩
  repeat (first | exact Below.refl _ _ | apply Below.drew | refine Below.alloc ?_ (by simp <;> omega) _)

set_option maxHeartbeats 400000 in
theorem walk20 (s0 s1 s2 s3 n : Int) (h0 : 0 ≤ n) (_h1 : n ≤ 255) (hq : n / 64 = 2) (hj : n % 64 = 0) (_b0 : 0 ≤ s2) (_b1 : s2 < 18446744073709551616)(w : World) :
    Calls Try.prog 3 #[.agg #[.int .u64 s0, .int .u64 s1, .int .u64 s2, .int .u64 s3], .int .u8 n] w fun e w' => e = .returned (.bool true) ∧ Below w.heap.size w w' := by
  go_enter Try.func3, Try.ntmps3
  go_wp2
  go_ret
  refine ⟨congrArg (fun b => Ending.returned (Value.bool b)) (or_gone s2 s3 _b0 _b1), ?_⟩
  repeat (first | exact Below.refl _ _ | apply Below.drew | refine Below.alloc ?_ (by simp <;> omega) _)

set_option maxHeartbeats 400000 in
theorem walk21 (s0 s1 s2 s3 n : Int) (j : Int) (h0 : 0 ≤ n) (_h1 : n ≤ 255) (hq : n / 64 = 2) (hj : n % 64 = j) (hj0 : 0 < j) (_hj1 : j < 64) (w : World) :
    Calls Try.prog 3 #[.agg #[.int .u64 s0, .int .u64 s1, .int .u64 s2, .int .u64 s3], .int .u8 n] w fun e w' => e = .returned (.bool true) ∧ Below w.heap.size w w' := by
  go_enter Try.func3, Try.ntmps3
  go_wp2
  go_ret
  refine ⟨rfl, ?_⟩
  repeat (first | exact Below.refl _ _ | apply Below.drew | refine Below.alloc ?_ (by simp <;> omega) _)

set_option maxHeartbeats 400000 in
theorem walk30 (s0 s1 s2 s3 n : Int) (h0 : 0 ≤ n) (_h1 : n ≤ 255) (hq : n / 64 = 3) (hj : n % 64 = 0) (_b0 : 0 ≤ s3) (_b1 : s3 < 18446744073709551616)(w : World) :
    Calls Try.prog 3 #[.agg #[.int .u64 s0, .int .u64 s1, .int .u64 s2, .int .u64 s3], .int .u8 n] w fun e w' => e = .returned (.bool true) ∧ Below w.heap.size w w' := by
  go_enter Try.func3, Try.ntmps3
  go_wp2
  go_ret
  refine ⟨rfl, ?_⟩
  repeat (first | exact Below.refl _ _ | apply Below.drew | refine Below.alloc ?_ (by simp <;> omega) _)

set_option maxHeartbeats 400000 in
theorem walk31 (s0 s1 s2 s3 n : Int) (j : Int) (h0 : 0 ≤ n) (_h1 : n ≤ 255) (hq : n / 64 = 3) (hj : n % 64 = j) (hj0 : 0 < j) (_hj1 : j < 64) (w : World) :
    Calls Try.prog 3 #[.agg #[.int .u64 s0, .int .u64 s1, .int .u64 s2, .int .u64 s3], .int .u8 n] w fun e w' => e = .returned (.bool true) ∧ Below w.heap.size w w' := by
  go_enter Try.func3, Try.ntmps3
  go_wp2
  go_ret
  refine ⟨rfl, ?_⟩
  repeat (first | exact Below.refl _ _ | apply Below.drew | refine Below.alloc ?_ (by simp <;> omega) _)

theorem walk (l : List Int) (hl : l.length = 4) (hw : ∀ x ∈ l, (Lit.int .u64 x).wf = true) (n : Int) (wn : (Lit.int .u8 n).wf = true) (w : World) :
    Calls Try.prog 3 #[.agg (l.map (Value.int .u64)).toArray, .int .u8 n] w fun e w' => e = .returned (.bool true) ∧ Below w.heap.size w w' := by
  obtain ⟨h0, h1⟩ := bounds_u8 wn
  match l, hl, hw with
  | [s0, s1, s2, s3], _, hw =>
    obtain ⟨a0, a1⟩ := bounds_u64 (hw s0 (by simp))
    obtain ⟨b0, b1⟩ := bounds_u64 (hw s1 (by simp))
    obtain ⟨c0, c1⟩ := bounds_u64 (hw s2 (by simp))
    obtain ⟨d0, d1⟩ := bounds_u64 (hw s3 (by simp))
    by_cases hz : n % 64 = 0
    · rcases (show n / 64 = 0 ∨ n / 64 = 1 ∨ n / 64 = 2 ∨ n / 64 = 3 by omega) with hq | hq | hq | hq
      · exact walk00 s0 s1 s2 s3 n h0 h1 hq hz a0 (by omega) w
      · exact walk10 s0 s1 s2 s3 n h0 h1 hq hz b0 (by omega) w
      · exact walk20 s0 s1 s2 s3 n h0 h1 hq hz c0 (by omega) w
      · exact walk30 s0 s1 s2 s3 n h0 h1 hq hz d0 (by omega) w
    · rcases (show n / 64 = 0 ∨ n / 64 = 1 ∨ n / 64 = 2 ∨ n / 64 = 3 by omega) with hq | hq | hq | hq
      · exact walk01 s0 s1 s2 s3 n _ h0 h1 hq rfl (by omega) (by omega) w
      · exact walk11 s0 s1 s2 s3 n _ h0 h1 hq rfl (by omega) (by omega) w
      · exact walk21 s0 s1 s2 s3 n _ h0 h1 hq rfl (by omega) (by omega) w
      · exact walk31 s0 s1 s2 s3 n _ h0 h1 hq rfl (by omega) (by omega) w

theorem own : ownKnob Try.prog.godebug = none := by kernel_rfl
theorem laidOut : laidOutB Try.prog = true := by kernel_rfl

set_option maxRecDepth 100000 in
theorem lifted (os : Os) (started : os.Started) (H : Type) (enc : TypeId × Value → H) :
    ReturnsInHanded {} Try.checked os 3 .any (Rows.fnOrdRshSpec.pre6 enc Try.prog Try.f3 Rows.fnOrdRshRow.domain false) (Rows.fnOrdRshSpec.post enc Try.prog Try.f3 false true false false) := by
  refine returnsInHanded_of_change (C := Try.checked) own started (by kernel_rfl) Try.func3
    (ChangeSpec.witness6 (enc := enc) (C := Try.checked) false ⟨#[], #[.agg #[.int .u64 0, .int .u64 0, .int .u64 0, .int .u64 0], .int .u8 0], []⟩ 8 (by kernel_rfl) (by kernel_rfl) (by kernel_rfl) (by kernel_rfl)) ?_
  intro W base args ds gs before hval0 hW _ _
  have hval : ∀ (j : Nat) t v, Try.f3.params[j]? = some t → args[j]? = some v → Value.okWide Try.prog W .any base t v := hval0
  have hW' := hW
  obtain ⟨p, q, hA0, _, rfl, _, _⟩ := hW
  have hA : DataW.TrodAll enc Try.prog W 0 (fun _ => true) true Try.f3.params.toList args.toList ds p := hA0
  rw [Try.params3] at hA hval
  obtain ⟨v0, vs0, d0, ds0, p0, q0, hargs, rfl, rfl, h0, r0⟩ := trodAll_cons hA
  obtain ⟨v1, vs1, d1, ds1, p1, q1, rfl, rfl, rfl, h1, r1⟩ := trodAll_cons r0
  obtain ⟨rfl, rfl, rfl⟩ := trodAll_nil r1
  obtain rfl : args = #[v0, v1] := by cases args; simp_all
  obtain ⟨a0, rfl, l0, w0⟩ := okWide_ints 22 Try.underlying23 (by kernel_rfl) (by kernel_rfl) Try.underlying22 (hval 0 23 v0 rfl rfl)
  obtain ⟨a1, rfl, rfl, rfl, w1⟩ := open_int Try.underlying5 (hval 1 5 v1 rfl rfl) h1
  clear hA0 hval0
  refine (walk a0 l0 w0 a1 w1 W).mono fun e W' ⟨he, hg⟩ => ?_
  subst he
  exact ⟨_, rfl, law_post laidOut hW' rfl rfl Try.underlying4 rfl (by kernel_rfl) hg⟩

theorem over : Rows.fnOrdRshRow.holds Try.pinned (OpenSpec.ofChange Rows.fnOrdRshSpec) :=
  OpenClaim.holds_of_wide 3 Try.f3 rfl rfl rfl rfl rfl rfl rfl ⟨rfl, rfl, rfl, rfl, rfl⟩ rfl rfl rfl rfl rfl (by kernel_rfl) Try.func3 (by kernel_rfl)
    (of_decide_eq_true (by kernel_rfl)) (by unfold Func.isWrapper; first | (rw [if_pos (by decide +kernel)]; kernel_rfl) | (rw [if_neg (by decide +kernel)]; exact ⟨rfl, rfl⟩))
    (fun os started H enc _ => lifted os started H enc)

/-- THE STATEMENT. -/
theorem proved : Rows.FnOrdRshSaid :=
  over
#print axioms proved
end Go.Proofs.Ytllnfnjcnhgbaaa.fnOrdRsh
