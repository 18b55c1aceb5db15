/-
  What FnBooth says: for every byte and both windows, the digit and the sign that the code tells are those of the definition.
  Conditions: none.
-/
import Derived.Test.YtllnfnjcnhgbaaaRows
import Derived.WalkKit
import Derived.WalkSpells
import Derived.ProofKit
import Derived.OpenShut
import Derived.Lib.Hide
namespace Go.Proofs.Ytllnfnjcnhgbaaa.fnBooth
open Go.ChangeShapes Go.WideShapes Go.ChangeAt Go.RowKit

def bo5d (n : Int) : Int := if n < 32 then (n + 1) / 2 else 32 - (n + 1) / 2
def bo5s (n : Int) : Int := if n < 32 then 0 else 1
theorem raw5 (k : Nat) (h : k < 64) : (IntKind.u64.wrap ((bits BinOp.or IntKind.u64 (bits BinOp.and IntKind.u64 (64 - k - 1) (bits BinOp.xor IntKind.u64 IntKind.u64.max (IntKind.u64.wrap ((k : Int) / 32 - 1)))) (bits BinOp.and IntKind.u64 k (bits BinOp.xor IntKind.u64 IntKind.u64.max (bits BinOp.xor IntKind.u64 IntKind.u64.max (IntKind.u64.wrap ((k : Int) / 32 - 1)))))) / 2 + bits BinOp.and IntKind.u64 (bits BinOp.or IntKind.u64 (bits BinOp.and IntKind.u64 (64 - k - 1) (bits BinOp.xor IntKind.u64 IntKind.u64.max (IntKind.u64.wrap ((k : Int) / 32 - 1)))) (bits BinOp.and IntKind.u64 k (bits BinOp.xor IntKind.u64 IntKind.u64.max (bits BinOp.xor IntKind.u64 IntKind.u64.max (IntKind.u64.wrap ((k : Int) / 32 - 1)))))) 1) % 256 = bo5d k) ∧ wrap64 (bits BinOp.and IntKind.u64 (bits BinOp.xor IntKind.u64 IntKind.u64.max (IntKind.u64.wrap ((k : Int) / 32 - 1))) 1) = bo5s k := by
  revert k; decide +kernel
set_option maxHeartbeats 400000 in
theorem boothW5_any (n : Int) (h0 : 0 ≤ n) (h1 : n ≤ 63) (w : World) : Calls Try.prog 29 #[.int .u64 n] w fun e w' => e = .returned (.tuple #[.int .u8 (bo5d n), .int .i64 (bo5s n)]) ∧ w = w' := by
  obtain ⟨k, rfl⟩ := Int.eq_ofNat_of_zero_le h0
  have H := raw5 k (by omega)
  go_enter Try.func29, Try.ntmps29
  go_wp2
  go_ret2
  exact ⟨by rw [← H.1, ← H.2]; rfl, rfl⟩
theorem spec5_any (n : Int) (h0 : 0 ≤ n) (h1 : n ≤ 63) (w : World) : Calls Try.prog 9 #[.int .i64 n, .int .i64 5] w fun e w' => e = .returned (.tuple #[.int .i64 (bo5d n), .bool (decide (bo5s n = 1))]) ∧ w = w' := by
  by_cases h : n < 32
  all_goals
    have e1 : bo5d n = (if n < 32 then (n + 1) / 2 else 32 - (n + 1) / 2) := rfl
    have e2 : bo5s n = (if n < 32 then 0 else 1) := rfl
    have HH := Lib.hid (And.intro e1 e2)
    clear e1 e2
    go_enter Try.func9, Try.ntmps9
    go_wp2
    go_ret2
    exact ⟨by rw [HH.out.1, HH.out.2]; first | (simp [h]; done) | (rw [if_neg (by omega), if_neg (by omega)]; simp), rfl⟩

def bo6d (n : Int) : Int := if n < 64 then (n + 1) / 2 else 64 - (n + 1) / 2
def bo6s (n : Int) : Int := if n < 64 then 0 else 1
theorem raw6 (k : Nat) (h : k < 128) : (IntKind.u64.wrap ((bits BinOp.or IntKind.u64 (bits BinOp.and IntKind.u64 (128 - k - 1) (bits BinOp.xor IntKind.u64 IntKind.u64.max (IntKind.u64.wrap ((k : Int) / 64 - 1)))) (bits BinOp.and IntKind.u64 k (bits BinOp.xor IntKind.u64 IntKind.u64.max (bits BinOp.xor IntKind.u64 IntKind.u64.max (IntKind.u64.wrap ((k : Int) / 64 - 1)))))) / 2 + bits BinOp.and IntKind.u64 (bits BinOp.or IntKind.u64 (bits BinOp.and IntKind.u64 (128 - k - 1) (bits BinOp.xor IntKind.u64 IntKind.u64.max (IntKind.u64.wrap ((k : Int) / 64 - 1)))) (bits BinOp.and IntKind.u64 k (bits BinOp.xor IntKind.u64 IntKind.u64.max (bits BinOp.xor IntKind.u64 IntKind.u64.max (IntKind.u64.wrap ((k : Int) / 64 - 1)))))) 1) % 256 = bo6d k) ∧ wrap64 (bits BinOp.and IntKind.u64 (bits BinOp.xor IntKind.u64 IntKind.u64.max (IntKind.u64.wrap ((k : Int) / 64 - 1))) 1) = bo6s k := by
  revert k; decide +kernel
set_option maxHeartbeats 400000 in
theorem boothW6_any (n : Int) (h0 : 0 ≤ n) (h1 : n ≤ 127) (w : World) : Calls Try.prog 28 #[.int .u64 n] w fun e w' => e = .returned (.tuple #[.int .u8 (bo6d n), .int .i64 (bo6s n)]) ∧ w = w' := by
  obtain ⟨k, rfl⟩ := Int.eq_ofNat_of_zero_le h0
  have H := raw6 k (by omega)
  go_enter Try.func28, Try.ntmps28
  go_wp2
  go_ret2
  exact ⟨by rw [← H.1, ← H.2]; rfl, rfl⟩
theorem spec6_any (n : Int) (h0 : 0 ≤ n) (h1 : n ≤ 127) (w : World) : Calls Try.prog 9 #[.int .i64 n, .int .i64 6] w fun e w' => e = .returned (.tuple #[.int .i64 (bo6d n), .bool (decide (bo6s n = 1))]) ∧ w = w' := by
  by_cases h : n < 64
  all_goals
    have e1 : bo6d n = (if n < 64 then (n + 1) / 2 else 64 - (n + 1) / 2) := rfl
    have e2 : bo6s n = (if n < 64 then 0 else 1) := rfl
    have HH := Lib.hid (And.intro e1 e2)
    clear e1 e2
    go_enter Try.func9, Try.ntmps9
    go_wp2
    go_ret2
    exact ⟨by rw [HH.out.1, HH.out.2]; first | (simp [h]; done) | (rw [if_neg (by omega), if_neg (by omega)]; simp), rfl⟩

theorem own : ownKnob Try.prog.godebug = none := by kernel_rfl
/-! ### STEP 1: THE WALK: the Go text returns true. 'Grown w w'': the world has at most new blocks (Derived/RowKit3.lean). Part the cases AHEAD of 'go_enter' where a test parts the walk; take each callee by a contract of your own. -/
theorem walk (a0 : Int) (a1 : Bool) (w0 : (Lit.int .u8 a0).wf = true) (w : World) :
    Calls Try.prog 4 #[.int .u8 a0, .bool a1] w fun e w' => e = .returned (.bool true) ∧ Grown w w' := by
  obtain ⟨l0, l1⟩ := bounds_u8 w0
  cases a1
  · have k0 : 0 ≤ a0 % 64 := by omega
    have k1 : a0 % 64 ≤ 63 := by omega
    have d0 : 0 ≤ bo5d (a0 % 64) := by unfold bo5d; split <;> omega
    have d1 : bo5d (a0 % 64) ≤ 64 := by unfold bo5d; split <;> omega
    by_cases h : a0 % 64 < 32
    · have es : bo5s (a0 % 64) = 0 := by simp [bo5s, h]
      have H := Lib.hid es; clear es
      go_enter Try.func4, Try.ntmps4
      go_wp2_with (first | (go_at_call 29; refine (boothW5_any _ k0 k1 _).mono ?_; rintro e w' ⟨rfl, rfl⟩; simp only [H.out]) | (go_at_call 9; refine (spec5_any _ k0 k1 _).mono ?_; rintro e w' ⟨rfl, rfl⟩; simp only [H.out, show decide ((0 : Int) = 1) = false from rfl]) | go_in)
      go_ret
      exact ⟨rfl, by repeat (first | exact Grown.refl _ | apply Grown.drew | apply Grown.alloc)⟩
    · have es : bo5s (a0 % 64) = 1 := by simp [bo5s, h]
      have H := Lib.hid es; clear es
      go_enter Try.func4, Try.ntmps4
      go_wp2_with (first | (go_at_call 29; refine (boothW5_any _ k0 k1 _).mono ?_; rintro e w' ⟨rfl, rfl⟩; simp only [H.out]) | (go_at_call 9; refine (spec5_any _ k0 k1 _).mono ?_; rintro e w' ⟨rfl, rfl⟩; simp only [H.out]) | go_in)
      go_ret
      exact ⟨rfl, by repeat (first | exact Grown.refl _ | apply Grown.drew | apply Grown.alloc)⟩
  · have k0 : 0 ≤ a0 % 128 := by omega
    have k1 : a0 % 128 ≤ 127 := by omega
    have d0 : 0 ≤ bo6d (a0 % 128) := by unfold bo6d; split <;> omega
    have d1 : bo6d (a0 % 128) ≤ 64 := by unfold bo6d; split <;> omega
    by_cases h : a0 % 128 < 64
    · have es : bo6s (a0 % 128) = 0 := by simp [bo6s, h]
      have H := Lib.hid es; clear es
      go_enter Try.func4, Try.ntmps4
      go_wp2_with (first | (go_at_call 28; refine (boothW6_any _ k0 k1 _).mono ?_; rintro e w' ⟨rfl, rfl⟩; simp only [H.out]) | (go_at_call 9; refine (spec6_any _ k0 k1 _).mono ?_; rintro e w' ⟨rfl, rfl⟩; simp only [H.out, show decide ((0 : Int) = 1) = false from rfl]) | go_in)
      go_ret
      exact ⟨rfl, by repeat (first | exact Grown.refl _ | apply Grown.drew | apply Grown.alloc)⟩
    · have es : bo6s (a0 % 128) = 1 := by simp [bo6s, h]
      have H := Lib.hid es; clear es
      go_enter Try.func4, Try.ntmps4
      go_wp2_with (first | (go_at_call 28; refine (boothW6_any _ k0 k1 _).mono ?_; rintro e w' ⟨rfl, rfl⟩; simp only [H.out]) | (go_at_call 9; refine (spec6_any _ k0 k1 _).mono ?_; rintro e w' ⟨rfl, rfl⟩; simp only [H.out]) | go_in)
      go_ret
      exact ⟨rfl, by repeat (first | exact Grown.refl _ | apply Grown.drew | apply Grown.alloc)⟩

/-! ### THE ROW's STEP: WRITTEN OUT: LEAVE IT -/
set_option maxRecDepth 100000 in
theorem lifted (os : Os) (started : os.Started) (H : Type) (enc : TypeId × Value → H) :
    ReturnsInHanded {} Try.checked os 4 .any (Rows.fnBoothSpec.pre6 enc Try.prog Try.f4 Rows.fnBoothRow.domain false) (Rows.fnBoothSpec.post enc Try.prog Try.f4 false true false false) := by
  refine returnsInHanded_of_change (C := Try.checked) own started (by kernel_rfl) Try.func4
    (ChangeSpec.witness6 (enc := enc) (C := Try.checked) false ⟨#[], #[.int .u8 0, .bool false], []⟩ 8 (by kernel_rfl) (by kernel_rfl) (by kernel_rfl) (by kernel_rfl)) ?_
  intro W base args ds gs before hval0 hW hcnd _
  have hval : ∀ (j : Nat) t v, Try.f4.params[j]? = some t → args[j]? = some v → Value.okWide Try.prog W .any base t v := hval0
  have hW' := hW
  obtain ⟨p, q, hA0, hV, rfl, hfz, hnd⟩ := hW
  have hA : DataW.TrodAll enc Try.prog W 0 (fun _ => true) true Try.f4.params.toList args.toList ds p := hA0
  rw [Try.params4] at hA hval
  obtain ⟨v0, vs0, d0, ds0, p0, q0, hargs, rfl, rfl, h0, r0⟩ := trodAll_cons hA
  obtain ⟨v1, vs1, d1, ds1, p1, q1, rfl, rfl, rfl, h1, r1⟩ := trodAll_cons r0
  obtain ⟨rfl, rfl, rfl⟩ := trodAll_nil r1
  obtain rfl : args = #[v0, v1] := by cases args; simp_all
  obtain ⟨rfl, rfl⟩ := trodVars_none hV
  obtain ⟨a0, rfl, rfl, rfl, w0⟩ := open_int Try.underlying5 (hval 0 5 v0 rfl rfl) h0
  obtain ⟨a1, rfl, rfl, rfl⟩ := open_bool Try.underlying4 (hval 1 4 v1 rfl rfl) h1
  clear hA0 hval0
  simp only [List.append_nil] at hW'
  refine (walk a0 a1 w0 W).mono fun e W' ⟨he, hg⟩ => ?_
  subst he
  exact ⟨_, rfl, post_of_same (pa := []) (pv := []) hW' (fun _ _ _ => (trodAll_cons_mk (shut_bool Try.underlying4 _) trodAll_mk0)) (fun sp _ => (trodAll_cons_mk (shut_int Try.underlying5 w0) (trodAll_cons_mk (shut_bool Try.underlying4 _) trodAll_mk0))) (fun _ _ => rfl) rfl
    (hg.frame _) hg.2.1 (ok_one (by kernel_rfl) rfl (okWide_bool_mk Try.underlying4 _))⟩

theorem over : Rows.fnBoothRow.holds Try.pinned (OpenSpec.ofChange Rows.fnBoothSpec) :=
  OpenClaim.holds_of_wide 4 Try.f4 rfl rfl rfl rfl rfl rfl rfl ⟨rfl, rfl, rfl, rfl, rfl⟩ rfl rfl rfl rfl rfl (by kernel_rfl) Try.func4 (by kernel_rfl)
    (of_decide_eq_true (by kernel_rfl)) (by unfold Func.isWrapper; first | (rw [if_pos (by decide +kernel)]; kernel_rfl) | (rw [if_neg (by decide +kernel)]; exact ⟨rfl, rfl⟩))
    (fun os started H enc _ => lifted os started H enc)

/-- ████ THE STATEMENT ████ -/
theorem proved : Rows.FnBoothSaid :=
  over
#print axioms proved
end Go.Proofs.Ytllnfnjcnhgbaaa.fnBooth
