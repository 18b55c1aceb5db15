/-
  What is proved here: what the digit of a window of five bits is, and its sign.
  Conditions: those of each theorem.
-/
import Derived.Test.YtgdjmgcolipcnaaProg
import Derived.WalkKit
import Derived.WalkSpells
import Derived.Outline
import Derived.ProofKit
import Derived.OpenShut
import Derived.Lib.Hide
import Derived.Test.YtgdjmgcolipcnaaNumRegMem
import Derived.Test.YtgdjmgcolipcnaaRegA
import Derived.Laws.BitsAllLaws
namespace Go.Proofs.Ytgdjmgcolipcnaa
open Go Go.ChangeShapes Go.WideShapes Go.ChangeAt Go.RowKit
set_option linter.unusedSimpArgs false
set_option linter.unusedVariables false
def bo5d (n : Int) : Int := if n < 32 then (n + 1) / 2 else 32 - (n + 1) / 2
def bo5s (n : Int) : Int := if n < 32 then 0 else 1
theorem raw5 (k : Nat) (h : k < 64) : (IntKind.u64.wrap ((bits BinOp.or IntKind.u64 (bits BinOp.and IntKind.u64 (64 - k - 1) (bits BinOp.xor IntKind.u64 IntKind.u64.max (IntKind.u64.wrap ((k : Int) / 32 - 1)))) (bits BinOp.and IntKind.u64 k (bits BinOp.xor IntKind.u64 IntKind.u64.max (bits BinOp.xor IntKind.u64 IntKind.u64.max (IntKind.u64.wrap ((k : Int) / 32 - 1)))))) / 2 + bits BinOp.and IntKind.u64 (bits BinOp.or IntKind.u64 (bits BinOp.and IntKind.u64 (64 - k - 1) (bits BinOp.xor IntKind.u64 IntKind.u64.max (IntKind.u64.wrap ((k : Int) / 32 - 1)))) (bits BinOp.and IntKind.u64 k (bits BinOp.xor IntKind.u64 IntKind.u64.max (bits BinOp.xor IntKind.u64 IntKind.u64.max (IntKind.u64.wrap ((k : Int) / 32 - 1)))))) 1) % 256 = bo5d k) ∧ wrap64 (bits BinOp.and IntKind.u64 (bits BinOp.xor IntKind.u64 IntKind.u64.max (IntKind.u64.wrap ((k : Int) / 32 - 1))) 1) = bo5s k := by
  revert k; decide +kernel
set_option maxHeartbeats 400000 in
theorem boothW5_any (n : Int) (h0 : 0 ≤ n) (h1 : n ≤ 63) (w : World) : Calls Try.prog 27 #[.int .u64 n] w fun e w' => e = .returned (.tuple #[.int .u8 (bo5d n), .int .i64 (bo5s n)]) ∧ w = w' := by
  obtain ⟨k, rfl⟩ := Int.eq_ofNat_of_zero_le h0
  have H := raw5 k (by omega)
  go_enter Try.func27, Try.ntmps27
  go_wp2
  go_ret2
  exact ⟨by rw [← H.1, ← H.2]; rfl, rfl⟩
end Go.Proofs.Ytgdjmgcolipcnaa
/-
  What is proved here: the lowest 64 bits of a number behind a shift.
  Conditions: those of each theorem.
-/
namespace Go.Proofs.Ytgdjmgcolipcnaa
open Go Go.ChangeShapes Go.WideShapes Go.ChangeAt Go.RowKit
set_option linter.unusedSimpArgs false
set_option linter.unusedVariables false
set_option maxHeartbeats 400000 in
theorem Rsh_00 (b : Nat) (s0 s1 s2 s3 n : Int) (h0 : 0 ≤ n) (h1 : n ≤ 255) (hq : n / 64 = 0) (hj : n % 64 = 0) (w : World) (q0 : w.cell? ⟨b, 0, none⟩ = some (.int .u64 s0)) (q1 : w.cell? ⟨b, 1, none⟩ = some (.int .u64 s1)) (q2 : w.cell? ⟨b, 2, none⟩ = some (.int .u64 s2)) (q3 : w.cell? ⟨b, 3, none⟩ = some (.int .u64 s3)) :
    Calls Try.prog 28 #[.pointer (some ⟨b, 0, none⟩), .int .i64 n] w fun e w' => e = .returned (.int .u64 (bits BinOp.or IntKind.u64 s0 (IntKind.u64.wrap (s1 * 18446744073709551616)))) ∧ Ext w w' := by
  go_enter Try.func28, Try.ntmps28
  go_wp2
  go_ret
  exact ⟨rfl, Ext.refl _⟩
set_option maxHeartbeats 400000 in
theorem Rsh_01 (b : Nat) (s0 s1 s2 s3 n : Int) (h0 : 0 ≤ n) (h1 : n ≤ 255) (hq : n / 64 = 0) (j : Int) (hj : n % 64 = j) (hj0 : 0 < j) (hj1 : j < 64) (w : World) (q0 : w.cell? ⟨b, 0, none⟩ = some (.int .u64 s0)) (q1 : w.cell? ⟨b, 1, none⟩ = some (.int .u64 s1)) (q2 : w.cell? ⟨b, 2, none⟩ = some (.int .u64 s2)) (q3 : w.cell? ⟨b, 3, none⟩ = some (.int .u64 s3)) :
    Calls Try.prog 28 #[.pointer (some ⟨b, 0, none⟩), .int .i64 n] w fun e w' => e = .returned (.int .u64 (bits BinOp.or IntKind.u64 (s0 / 2 ^ j.toNat) (IntKind.u64.wrap (s1 * 2 ^ (64 - j).toNat)))) ∧ Ext w w' := by
  go_enter Try.func28, Try.ntmps28
  go_wp2
  go_ret
  exact ⟨rfl, Ext.refl _⟩
set_option maxHeartbeats 400000 in
theorem Rsh_10 (b : Nat) (s0 s1 s2 s3 n : Int) (h0 : 0 ≤ n) (h1 : n ≤ 255) (hq : n / 64 = 1) (hj : n % 64 = 0) (w : World) (q0 : w.cell? ⟨b, 0, none⟩ = some (.int .u64 s0)) (q1 : w.cell? ⟨b, 1, none⟩ = some (.int .u64 s1)) (q2 : w.cell? ⟨b, 2, none⟩ = some (.int .u64 s2)) (q3 : w.cell? ⟨b, 3, none⟩ = some (.int .u64 s3)) :
    Calls Try.prog 28 #[.pointer (some ⟨b, 0, none⟩), .int .i64 n] w fun e w' => e = .returned (.int .u64 (bits BinOp.or IntKind.u64 s1 (IntKind.u64.wrap (s2 * 18446744073709551616)))) ∧ Ext w w' := by
  go_enter Try.func28, Try.ntmps28
  go_wp2
  go_ret
  exact ⟨rfl, Ext.refl _⟩
set_option maxHeartbeats 400000 in
theorem Rsh_11 (b : Nat) (s0 s1 s2 s3 n : Int) (h0 : 0 ≤ n) (h1 : n ≤ 255) (hq : n / 64 = 1) (j : Int) (hj : n % 64 = j) (hj0 : 0 < j) (hj1 : j < 64) (w : World) (q0 : w.cell? ⟨b, 0, none⟩ = some (.int .u64 s0)) (q1 : w.cell? ⟨b, 1, none⟩ = some (.int .u64 s1)) (q2 : w.cell? ⟨b, 2, none⟩ = some (.int .u64 s2)) (q3 : w.cell? ⟨b, 3, none⟩ = some (.int .u64 s3)) :
    Calls Try.prog 28 #[.pointer (some ⟨b, 0, none⟩), .int .i64 n] w fun e w' => e = .returned (.int .u64 (bits BinOp.or IntKind.u64 (s1 / 2 ^ j.toNat) (IntKind.u64.wrap (s2 * 2 ^ (64 - j).toNat)))) ∧ Ext w w' := by
  go_enter Try.func28, Try.ntmps28
  go_wp2
  go_ret
  exact ⟨rfl, Ext.refl _⟩
set_option maxHeartbeats 400000 in
theorem Rsh_20 (b : Nat) (s0 s1 s2 s3 n : Int) (h0 : 0 ≤ n) (h1 : n ≤ 255) (hq : n / 64 = 2) (hj : n % 64 = 0) (w : World) (q0 : w.cell? ⟨b, 0, none⟩ = some (.int .u64 s0)) (q1 : w.cell? ⟨b, 1, none⟩ = some (.int .u64 s1)) (q2 : w.cell? ⟨b, 2, none⟩ = some (.int .u64 s2)) (q3 : w.cell? ⟨b, 3, none⟩ = some (.int .u64 s3)) :
    Calls Try.prog 28 #[.pointer (some ⟨b, 0, none⟩), .int .i64 n] w fun e w' => e = .returned (.int .u64 (bits BinOp.or IntKind.u64 s2 (IntKind.u64.wrap (s3 * 18446744073709551616)))) ∧ Ext w w' := by
  go_enter Try.func28, Try.ntmps28
  go_wp2
  go_ret
  exact ⟨rfl, Ext.refl _⟩
set_option maxHeartbeats 400000 in
theorem Rsh_21 (b : Nat) (s0 s1 s2 s3 n : Int) (h0 : 0 ≤ n) (h1 : n ≤ 255) (hq : n / 64 = 2) (j : Int) (hj : n % 64 = j) (hj0 : 0 < j) (hj1 : j < 64) (w : World) (q0 : w.cell? ⟨b, 0, none⟩ = some (.int .u64 s0)) (q1 : w.cell? ⟨b, 1, none⟩ = some (.int .u64 s1)) (q2 : w.cell? ⟨b, 2, none⟩ = some (.int .u64 s2)) (q3 : w.cell? ⟨b, 3, none⟩ = some (.int .u64 s3)) :
    Calls Try.prog 28 #[.pointer (some ⟨b, 0, none⟩), .int .i64 n] w fun e w' => e = .returned (.int .u64 (bits BinOp.or IntKind.u64 (s2 / 2 ^ j.toNat) (IntKind.u64.wrap (s3 * 2 ^ (64 - j).toNat)))) ∧ Ext w w' := by
  go_enter Try.func28, Try.ntmps28
  go_wp2
  go_ret
  exact ⟨rfl, Ext.refl _⟩
set_option maxHeartbeats 400000 in
theorem Rsh_30 (b : Nat) (s0 s1 s2 s3 n : Int) (h0 : 0 ≤ n) (h1 : n ≤ 255) (hq : n / 64 = 3) (hj : n % 64 = 0) (w : World) (q0 : w.cell? ⟨b, 0, none⟩ = some (.int .u64 s0)) (q1 : w.cell? ⟨b, 1, none⟩ = some (.int .u64 s1)) (q2 : w.cell? ⟨b, 2, none⟩ = some (.int .u64 s2)) (q3 : w.cell? ⟨b, 3, none⟩ = some (.int .u64 s3)) :
    Calls Try.prog 28 #[.pointer (some ⟨b, 0, none⟩), .int .i64 n] w fun e w' => e = .returned (.int .u64 (s3)) ∧ Ext w w' := by
  go_enter Try.func28, Try.ntmps28
  go_wp2
  go_ret
  exact ⟨rfl, Ext.refl _⟩
set_option maxHeartbeats 400000 in
theorem Rsh_31 (b : Nat) (s0 s1 s2 s3 n : Int) (h0 : 0 ≤ n) (h1 : n ≤ 255) (hq : n / 64 = 3) (j : Int) (hj : n % 64 = j) (hj0 : 0 < j) (hj1 : j < 64) (w : World) (q0 : w.cell? ⟨b, 0, none⟩ = some (.int .u64 s0)) (q1 : w.cell? ⟨b, 1, none⟩ = some (.int .u64 s1)) (q2 : w.cell? ⟨b, 2, none⟩ = some (.int .u64 s2)) (q3 : w.cell? ⟨b, 3, none⟩ = some (.int .u64 s3)) :
    Calls Try.prog 28 #[.pointer (some ⟨b, 0, none⟩), .int .i64 n] w fun e w' => e = .returned (.int .u64 (s3 / 2 ^ j.toNat)) ∧ Ext w w' := by
  go_enter Try.func28, Try.ntmps28
  go_wp2
  go_ret
  exact ⟨rfl, Ext.refl _⟩
end Go.Proofs.Ytgdjmgcolipcnaa
/-
  What is proved here: the words of a number behind a shift, as a quotient. No program in sight.
  Conditions: those of each theorem.
-/
namespace Go.Proofs.Ytgdjmgcolipcnaa
open Go Go.RowKit
set_option linter.unusedSimpArgs false
set_option linter.unusedVariables false
theorem nat_shr (a c j : Nat) (ha : a < 2 ^ 64) (hj : j < 64) : (a + 2 ^ 64 * c) / 2 ^ j % 2 ^ 64 = (a / 2 ^ j) ||| (c * 2 ^ (64 - j) % 2 ^ 64) := by
  have e : (2 : Nat) ^ 64 = 2 ^ j * 2 ^ (64 - j) := by rw [← Nat.pow_add]; congr 1; omega
  have hp : 0 < 2 ^ j := Nat.two_pow_pos j
  have h1 : (a + 2 ^ 64 * c) / 2 ^ j = a / 2 ^ j + 2 ^ (64 - j) * c := by
    rw [e, Nat.mul_assoc, Nat.add_mul_div_left _ _ hp]
  have h2 : a / 2 ^ j < 2 ^ (64 - j) := by
    apply Nat.div_lt_of_lt_mul
    rw [← e]; exact ha
  have h3 : c * 2 ^ (64 - j) % 2 ^ 64 = 2 ^ (64 - j) * (c % 2 ^ j) := by
    rw [Nat.mul_comm c, e, Nat.mul_comm (2 ^ j), Nat.mul_mod_mul_left]
  have h4 : (a / 2 ^ j + 2 ^ (64 - j) * c) % 2 ^ 64 = a / 2 ^ j + 2 ^ (64 - j) * (c % 2 ^ j) := by
    have hd := Nat.div_add_mod c (2 ^ j)
    have hlt : a / 2 ^ j + 2 ^ (64 - j) * (c % 2 ^ j) < 2 ^ 64 := by
      have hm := Nat.mod_lt c hp
      calc a / 2 ^ j + 2 ^ (64 - j) * (c % 2 ^ j) < 2 ^ (64 - j) + 2 ^ (64 - j) * (c % 2 ^ j) := Nat.add_lt_add_right h2 _
        _ = 2 ^ (64 - j) * (c % 2 ^ j + 1) := by rw [Nat.mul_add, Nat.mul_one, Nat.add_comm]
        _ ≤ 2 ^ (64 - j) * 2 ^ j := Nat.mul_le_mul_left _ hm
        _ = 2 ^ 64 := by rw [e, Nat.mul_comm]
    have e5 : a / 2 ^ j + 2 ^ (64 - j) * c = (a / 2 ^ j + 2 ^ (64 - j) * (c % 2 ^ j)) + 2 ^ 64 * (c / 2 ^ j) := by
      have e6 : 2 ^ (64 - j) * c = 2 ^ (64 - j) * (c % 2 ^ j) + 2 ^ 64 * (c / 2 ^ j) := by
        have e7 : 2 ^ 64 * (c / 2 ^ j) = 2 ^ (64 - j) * (2 ^ j * (c / 2 ^ j)) := by rw [e, ← Nat.mul_assoc, Nat.mul_comm (2 ^ j)]
        rw [e7, ← Nat.mul_add]
        congr 1
        omega
      rw [e6, Nat.add_assoc]
    rw [e5, Nat.add_mul_mod_self_left, Nat.mod_eq_of_lt hlt]
  rw [h1, h4, h3, Nat.add_comm, Nat.two_pow_add_eq_or_of_lt h2, Nat.or_comm]
theorem nat_shr' (a c r j : Nat) (ha : a < 2 ^ 64) (hj : j < 64) : (a + 2 ^ 64 * (c + 2 ^ 64 * r)) / 2 ^ j % 2 ^ 64 = (a / 2 ^ j) ||| (c * 2 ^ (64 - j) % 2 ^ 64) := by
  rw [nat_shr _ _ _ ha hj, Nat.add_mul, Nat.mul_assoc, Nat.add_mul_mod_self_left]
/-- The number of four words. -/
def num4 (s0 s1 s2 s3 : Nat) : Nat := s0 + 2 ^ 64 * (s1 + 2 ^ 64 * (s2 + 2 ^ 64 * s3))
theorem or_wrap (a c j : Nat) (ha : a < 2 ^ 64) (hj : j < 64) : bits BinOp.or IntKind.u64 ((a : Int) / 2 ^ ((j : Int)).toNat) (IntKind.u64.wrap ((c : Int) * 2 ^ (64 - (j : Int)).toNat)) = (((a / 2 ^ j) ||| (c * 2 ^ (64 - j) % 2 ^ 64) : Nat) : Int) := by
  have e1 : (64 - (j : Int)).toNat = 64 - j := by omega
  have e2 : ((j : Int)).toNat = j := by omega
  have e3 : IntKind.u64.wrap ((c : Int) * 2 ^ (64 - j)) = ((c * 2 ^ (64 - j) % 2 ^ 64 : Nat) : Int) := by
    rw [IntKind.wrap_u64, Int.natCast_emod, Int.natCast_mul, Int.natCast_pow]
    rfl
  have e4 : (a : Int) / 2 ^ j = ((a / 2 ^ j : Nat) : Int) := by rw [Int.natCast_ediv, Int.natCast_pow]; rfl
  rw [e1, e2, e3, e4]
  refine u64_or_nat _ _ ?_ ?_
  · exact Nat.lt_of_le_of_lt (Nat.div_le_self _ _) ha
  · exact Nat.mod_lt _ (by decide)
theorem or_none (a c : Nat) (ha : a < 2 ^ 64) : bits BinOp.or IntKind.u64 (a : Int) (IntKind.u64.wrap ((c : Int) * 18446744073709551616)) = (a : Int) := by
  have e : IntKind.u64.wrap ((c : Int) * 18446744073709551616) = ((0 : Nat) : Int) := by rw [IntKind.wrap_u64]; omega
  rw [e, u64_or_nat _ _ ha (by decide), Nat.or_zero]
theorem num4_1 (s0 s1 s2 s3 : Nat) (h : s0 < 2 ^ 64) : num4 s0 s1 s2 s3 / 2 ^ 64 = s1 + 2 ^ 64 * (s2 + 2 ^ 64 * s3) := by
  unfold num4
  rw [Nat.add_mul_div_left _ _ (by decide), Nat.div_eq_of_lt h, Nat.zero_add]
theorem num4_2 (s0 s1 s2 s3 : Nat) (h : s0 < 2 ^ 64) (h1 : s1 < 2 ^ 64) : num4 s0 s1 s2 s3 / 2 ^ 128 = s2 + 2 ^ 64 * s3 := by
  rw [show (2 : Nat) ^ 128 = 2 ^ 64 * 2 ^ 64 from rfl, ← Nat.div_div_eq_div_mul, num4_1 _ _ _ _ h, Nat.add_mul_div_left _ _ (by decide), Nat.div_eq_of_lt h1, Nat.zero_add]
theorem num4_3 (s0 s1 s2 s3 : Nat) (h : s0 < 2 ^ 64) (h1 : s1 < 2 ^ 64) (h2 : s2 < 2 ^ 64) : num4 s0 s1 s2 s3 / 2 ^ 192 = s3 := by
  rw [show (2 : Nat) ^ 192 = 2 ^ 128 * 2 ^ 64 from rfl, ← Nat.div_div_eq_div_mul, num4_2 _ _ _ _ h h1, Nat.add_mul_div_left _ _ (by decide), Nat.div_eq_of_lt h2, Nat.zero_add]
theorem num4_at (T n q j : Nat) (hn : n = 64 * q + j) : T / 2 ^ n = T / 2 ^ (64 * q) / 2 ^ j := by
  rw [hn, Nat.pow_add, Nat.div_div_eq_div_mul]
set_option maxHeartbeats 400000 in
theorem Rsh_any (b s0 s1 s2 s3 n : Nat) (b0 : s0 < 2 ^ 64) (b1 : s1 < 2 ^ 64) (b2 : s2 < 2 ^ 64) (b3 : s3 < 2 ^ 64) (hn : n ≤ 255) (w : World) (q0 : w.cell? ⟨b, 0, none⟩ = some (.int .u64 (s0 : Int))) (q1 : w.cell? ⟨b, 1, none⟩ = some (.int .u64 (s1 : Int))) (q2 : w.cell? ⟨b, 2, none⟩ = some (.int .u64 (s2 : Int))) (q3 : w.cell? ⟨b, 3, none⟩ = some (.int .u64 (s3 : Int))) :
    Calls Try.prog 28 #[.pointer (some ⟨b, 0, none⟩), .int .i64 (n : Int)] w fun e w' => e = .returned (.int .u64 ((num4 s0 s1 s2 s3 / 2 ^ n % 2 ^ 64 : Nat) : Int)) ∧ Ext w w' := by
  obtain ⟨q, j, hnq, hj64⟩ : ∃ q j, n = 64 * q + j ∧ j < 64 := ⟨n / 64, n % 64, by omega, by omega⟩
  have hq4 : q = 0 ∨ q = 1 ∨ q = 2 ∨ q = 3 := by omega
  rw [num4_at _ n q j hnq]
  by_cases hj : j = 0
  · subst hj
    rw [Nat.pow_zero, Nat.div_one]
    rcases hq4 with rfl | rfl | rfl | rfl
    · have h := Rsh_00 b s0 s1 s2 s3 n (by omega) (by omega) (by omega) (by omega) w q0 q1 q2 q3
      rw [or_none _ _ b0] at h
      rw [show num4 s0 s1 s2 s3 / 2 ^ (64 * 0) % 2 ^ 64 = s0 from by unfold num4; rw [Nat.mul_zero, Nat.pow_zero, Nat.div_one, Nat.add_mul_mod_self_left, Nat.mod_eq_of_lt b0]]
      exact h
    · have h := Rsh_10 b s0 s1 s2 s3 n (by omega) (by omega) (by omega) (by omega) w q0 q1 q2 q3
      rw [or_none _ _ b1] at h
      rw [show num4 s0 s1 s2 s3 / 2 ^ (64 * 1) % 2 ^ 64 = s1 from by rw [show 64 * 1 = 64 from rfl, num4_1 _ _ _ _ b0, Nat.add_mul_mod_self_left, Nat.mod_eq_of_lt b1]]
      exact h
    · have h := Rsh_20 b s0 s1 s2 s3 n (by omega) (by omega) (by omega) (by omega) w q0 q1 q2 q3
      rw [or_none _ _ b2] at h
      rw [show num4 s0 s1 s2 s3 / 2 ^ (64 * 2) % 2 ^ 64 = s2 from by rw [show 64 * 2 = 128 from rfl, num4_2 _ _ _ _ b0 b1, Nat.add_mul_mod_self_left, Nat.mod_eq_of_lt b2]]
      exact h
    · have h := Rsh_30 b s0 s1 s2 s3 n (by omega) (by omega) (by omega) (by omega) w q0 q1 q2 q3
      rw [show num4 s0 s1 s2 s3 / 2 ^ (64 * 3) % 2 ^ 64 = s3 from by rw [show 64 * 3 = 192 from rfl, num4_3 _ _ _ _ b0 b1 b2, Nat.mod_eq_of_lt b3]]
      exact h
  · rcases hq4 with rfl | rfl | rfl | rfl
    · have h := Rsh_01 b s0 s1 s2 s3 n (by omega) (by omega) (by omega) (j : Int) (by omega) (by omega) (by omega) w q0 q1 q2 q3
      rw [or_wrap _ _ _ b0 hj64] at h
      rw [show num4 s0 s1 s2 s3 / 2 ^ (64 * 0) / 2 ^ j % 2 ^ 64 = (s0 / 2 ^ j) ||| (s1 * 2 ^ (64 - j) % 2 ^ 64) from by unfold num4; rw [Nat.mul_zero, Nat.pow_zero, Nat.div_one, nat_shr' _ _ _ _ b0 hj64]]
      exact h
    · have h := Rsh_11 b s0 s1 s2 s3 n (by omega) (by omega) (by omega) (j : Int) (by omega) (by omega) (by omega) w q0 q1 q2 q3
      rw [or_wrap _ _ _ b1 hj64] at h
      rw [show num4 s0 s1 s2 s3 / 2 ^ (64 * 1) / 2 ^ j % 2 ^ 64 = (s1 / 2 ^ j) ||| (s2 * 2 ^ (64 - j) % 2 ^ 64) from by rw [show 64 * 1 = 64 from rfl, num4_1 _ _ _ _ b0, nat_shr' _ _ _ _ b1 hj64]]
      exact h
    · have h := Rsh_21 b s0 s1 s2 s3 n (by omega) (by omega) (by omega) (j : Int) (by omega) (by omega) (by omega) w q0 q1 q2 q3
      rw [or_wrap _ _ _ b2 hj64] at h
      rw [show num4 s0 s1 s2 s3 / 2 ^ (64 * 2) / 2 ^ j % 2 ^ 64 = (s2 / 2 ^ j) ||| (s3 * 2 ^ (64 - j) % 2 ^ 64) from by rw [show 64 * 2 = 128 from rfl, num4_2 _ _ _ _ b0 b1, nat_shr _ _ _ b2 hj64]]
      exact h
    · have h := Rsh_31 b s0 s1 s2 s3 n (by omega) (by omega) (by omega) (j : Int) (by omega) (by omega) (by omega) w q0 q1 q2 q3
      rw [show num4 s0 s1 s2 s3 / 2 ^ (64 * 3) / 2 ^ j % 2 ^ 64 = s3 / 2 ^ j from by rw [show 64 * 3 = 192 from rfl, num4_3 _ _ _ _ b0 b1 b2, Nat.mod_eq_of_lt (Nat.lt_of_le_of_lt (Nat.div_le_self _ _) b3)]]
      rw [show ((s3 : Int) / 2 ^ ((j : Int)).toNat) = ((s3 / 2 ^ j : Nat) : Int) from by rw [Int.natCast_ediv, Int.natCast_pow]; rfl] at h
      exact h
end Go.Proofs.Ytgdjmgcolipcnaa
