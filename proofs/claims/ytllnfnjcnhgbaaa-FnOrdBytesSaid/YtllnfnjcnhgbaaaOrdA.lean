/-
  What is proved here: what the package's functions on the order's numbers return.
  Conditions: those of each theorem.
-/
import Derived.Test.YtllnfnjcnhgbaaaRows
import Derived.Test.YtllnfnjcnhgbaaaKit
import Derived.Test.YtllnfnjcnhgbaaaNum
import Derived.Test.YtllnfnjcnhgbaaaReg
import Derived.WalkKit
import Derived.WalkSpells
import Derived.Outline
import Derived.Handy
import Derived.ProofKit
import Derived.Deep.QuietTactic
import Derived.BigQuiet
import Derived.Lib.Hide
import Derived.Laws.BitsAllLaws
namespace Go.Proofs.Ytllnfnjcnhgbaaa
open Go.RowKit
set_option linter.unusedSimpArgs false
set_option linter.unusedVariables false

theorem or_join (k : Nat) (c a b : Int) (hc : c = ((2 ^ k : Nat) : Int)) (hk : c ≤ 72057594037927936) (a0 : 0 ≤ a) (a1 : a < c) (b0 : 0 ≤ b) (b1 : b < 256) :
    bits BinOp.or IntKind.u64 a (IntKind.u64.wrap (IntKind.u64.wrap b * c)) = a + b * c := by
  have h1 : IntKind.u64.wrap b = b := by rw [IntKind.wrap_u64]; omega
  have hbc0 : 0 ≤ b * c := Int.mul_nonneg b0 (by omega)
  have hbc1 : b * c ≤ 255 * c := Int.mul_le_mul_of_nonneg_right (by omega) (by omega)
  have h2 : IntKind.u64.wrap (b * c) = b * c := by rw [IntKind.wrap_u64]; omega
  rw [h1, h2, u64_or a (b * c) a0 (by omega) hbc0 (by omega)]
  have hm : (b * c).toNat % 2 ^ k = 0 := by
    have : (b * c).toNat = b.toNat * 2 ^ k := by
      subst hc
      rw [Int.toNat_mul b0 (by omega), Int.toNat_natCast]
    rw [this]; exact Nat.mul_mod_left _ _
  rw [Nat.or_comm, nat_join k (b * c).toNat a.toNat hm (by omega)]
  omega

set_option maxHeartbeats 4000000 in
set_option maxRecDepth 100000 in
theorem beUint64_any (b off cap n : Nat) (x0 x1 x2 x3 x4 x5 x6 x7 : Int) (hn : 8 ≤ n) (hc : n ≤ cap) (hb : ∀ x ∈ [x0, x1, x2, x3, x4, x5, x6, x7], 0 ≤ x ∧ x < 256) (w : World)
    (h0 : w.cell? ⟨b, off, none⟩ = some (.int .u8 x0)) (h1 : w.cell? ⟨b, off + 1, none⟩ = some (.int .u8 x1)) (h2 : w.cell? ⟨b, off + 2, none⟩ = some (.int .u8 x2)) (h3 : w.cell? ⟨b, off + 3, none⟩ = some (.int .u8 x3))
    (h4 : w.cell? ⟨b, off + 4, none⟩ = some (.int .u8 x4)) (h5 : w.cell? ⟨b, off + 5, none⟩ = some (.int .u8 x5)) (h6 : w.cell? ⟨b, off + 6, none⟩ = some (.int .u8 x6)) (h7 : w.cell? ⟨b, off + 7, none⟩ = some (.int .u8 x7)) :
    Calls Try.prog 33 #[.slice (some ⟨b, off, none⟩) n cap] w fun e w' =>
      e = .returned (.int .u64 (x7 + x6 * 256 + x5 * 65536 + x4 * 16777216 + x3 * 4294967296 + x2 * 1099511627776 + x1 * 281474976710656 + x0 * 72057594037927936)) ∧ ∃ k, w' = w.drewN k := by
  have H := Lib.hid hb; clear hb
  go_enter Try.func33, Try.ntmps33
  go_wp2_with (go_quiet (fail))
  go_ret
  refine ⟨?_, ⟨_, rfl⟩⟩
  have hb := H.out
  obtain ⟨p0, q0⟩ := hb x0 (by simp)
  obtain ⟨p1, q1⟩ := hb x1 (by simp)
  obtain ⟨p2, q2⟩ := hb x2 (by simp)
  obtain ⟨p3, q3⟩ := hb x3 (by simp)
  obtain ⟨p4, q4⟩ := hb x4 (by simp)
  obtain ⟨p5, q5⟩ := hb x5 (by simp)
  obtain ⟨p6, q6⟩ := hb x6 (by simp)
  obtain ⟨p7, q7⟩ := hb x7 (by simp)
  have e0 : IntKind.u64.wrap x7 = x7 := by rw [IntKind.wrap_u64]; omega
  refine congrArg (fun v => Ending.returned (Value.int .u64 v)) ?_
  rw [e0]
  rw [or_join 8 256 x7 x6 (by decide) (by decide) p7 (by omega) p6 q6]
  rw [or_join 16 65536 _ x5 (by decide) (by decide) (by omega) (by omega) p5 q5]
  rw [or_join 24 16777216 _ x4 (by decide) (by decide) (by omega) (by omega) p4 q4]
  rw [or_join 32 4294967296 _ x3 (by decide) (by decide) (by omega) (by omega) p3 q3]
  rw [or_join 40 1099511627776 _ x2 (by decide) (by decide) (by omega) (by omega) p2 q2]
  rw [or_join 48 281474976710656 _ x1 (by decide) (by decide) (by omega) (by omega) p1 q1]
  rw [or_join 56 72057594037927936 _ x0 (by decide) (by decide) (by omega) (by omega) p0 q0]
end Go.Proofs.Ytllnfnjcnhgbaaa
