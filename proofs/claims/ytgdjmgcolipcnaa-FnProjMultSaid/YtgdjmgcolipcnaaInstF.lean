/-
  What is proved here: what the engine needs of this program.
  Conditions: none.
-/
import Derived.Test.YtgdjmgcolipcnaaProg
import Derived.Test.YtgdjmgcolipcnaaEngBEngCEngD
import Derived.WalkKit
import Derived.OpenShut
import Derived.Lib.Mul64
import Derived.Laws.Bits64b
namespace Go.Proofs.Ytgdjmgcolipcnaa
open Go.RowKit Go.Lib
set_option linter.unusedSimpArgs false
set_option linter.unusedVariables false

theorem maskN (a : Nat) (ha : a < 18446744073709551616) : bits .and .u64 (a : Int) 4294967295 = ((a % 4294967296 : Nat) : Int) := by
  have h := bits_and_u64_nat a 4294967295 ha (by omega)
  have e : a &&& 4294967295 = a % 4294967296 := Nat.and_two_pow_sub_one_eq_mod a 32
  rw [e] at h
  exact h
theorem divN (a : Nat) : (a : Int) / 4294967296 = ((a / 4294967296 : Nat) : Int) := by omega
theorem mulN (a b : Nat) : (a : Int) * (b : Int) = ((a * b : Nat) : Int) := (Int.natCast_mul a b).symm
theorem addN (a b : Nat) : (a : Int) + (b : Int) = ((a + b : Nat) : Int) := (Int.natCast_add a b).symm
theorem wrapN (a : Nat) (ha : a < 18446744073709551616) : IntKind.u64.wrap (a : Int) = (a : Int) := by rw [IntKind.wrap_u64]; omega
theorem wrapM (a : Nat) : IntKind.u64.wrap (a : Int) = ((a % 18446744073709551616 : Nat) : Int) := by rw [IntKind.wrap_u64]; omega

set_option maxHeartbeats 1000000 in
theorem Mul64_nat (x y : Nat) (hx : x < 18446744073709551616) (hy : y < 18446744073709551616) (w : World) :
    Calls Try.prog 66 #[.int .u64 x, .int .u64 y] w fun e w' => e = .returned (.tuple #[.int .u64 ((x * y / 18446744073709551616 : Nat) : Int), .int .u64 ((x * y % 18446744073709551616 : Nat) : Int)]) ∧ w' = w := by
  obtain ⟨bd, bt, bw, hhi⟩ := Lib.mul64_hi x y hx hy
  have ba := Lib.half_mul_le (a := x / 4294967296) (b := y / 4294967296) (by omega) (by omega)
  have bb := Lib.half_mul_le (a := x / 4294967296) (b := y % 4294967296) (by omega) (by omega)
  have bc := Lib.half_mul_le (a := x % 4294967296) (b := y / 4294967296) (by omega) (by omega)
  have ba' : x / 4294967296 * (y / 4294967296) < 18446744073709551616 := by omega
  have bb' : x / 4294967296 * (y % 4294967296) < 18446744073709551616 := by omega
  have bc' : x % 4294967296 * (y / 4294967296) < 18446744073709551616 := by omega
  have bh1 : x / 4294967296 * (y / 4294967296) + (x / 4294967296 * (y % 4294967296) + x % 4294967296 * (y % 4294967296) / 4294967296) / 4294967296 < 18446744073709551616 := by omega
  have bh : x / 4294967296 * (y / 4294967296) + (x / 4294967296 * (y % 4294967296) + x % 4294967296 * (y % 4294967296) / 4294967296) / 4294967296 + ((x / 4294967296 * (y % 4294967296) + x % 4294967296 * (y % 4294967296) / 4294967296) % 4294967296 + x % 4294967296 * (y / 4294967296)) / 4294967296 < 18446744073709551616 := by omega
  go_enter Try.func66, Try.ntmps66
  go_wp2
  simp only [maskN x hx, maskN y hy, divN, mulN, addN, wrapN _ bd, wrapN _ bb', wrapN _ bt, maskN _ bt, wrapN _ bc', wrapN _ bw, wrapN _ ba', wrapN _ bh1, wrapN _ bh, wrapM (x * y)]
  rw [hhi]
  go_ret2
  exact ⟨rfl, rfl⟩

theorem Mul64_int (x y : Int) (w : World) (hx0 : 0 ≤ x) (hx : x < 18446744073709551616) (hy0 : 0 ≤ y) (hy : y < 18446744073709551616) :
    Calls Try.prog 66 #[.int .u64 x, .int .u64 y] w fun e w' => e = .returned (.tuple #[.int .u64 (x * y / 18446744073709551616), .int .u64 (x * y % 18446744073709551616)]) ∧ w' = w := by
  obtain ⟨X, rfl⟩ := Int.eq_ofNat_of_zero_le hx0
  obtain ⟨Y, rfl⟩ := Int.eq_ofNat_of_zero_le hy0
  have h := Mul64_nat X Y (by omega) (by omega) w
  rw [Int.natCast_ediv, Int.natCast_emod, Int.natCast_mul] at h
  exact h

theorem Add64_int (x y c : Int) (w : World) (hx0 : 0 ≤ x) (hx : x < 18446744073709551616) (hy0 : 0 ≤ y) (hy : y < 18446744073709551616) (hc : c = 0 ∨ c = 1) :
    (callFunc 67 #[.int .u64 x, .int .u64 y, .int .u64 c]).run Try.prog w = .ok (.value (.tuple #[.int .u64 ((x + y + c) % 18446744073709551616), .int .u64 ((x + y + c) / 18446744073709551616)])) w := by
  rw [run_callFunc_extern Try.func67 (by kernel_rfl) (by kernel_rfl) (by kernel_rfl) (e := add64Entry) (by kernel_rfl), run_add64 x y c hx0 hy0 (by omega) (by omega)]
  rfl
theorem Sub64_int (x y c : Int) (w : World) (hx0 : 0 ≤ x) (hx : x < 18446744073709551616) (hy0 : 0 ≤ y) (hy : y < 18446744073709551616) (hc : c = 0 ∨ c = 1) :
    (callFunc 44 #[.int .u64 x, .int .u64 y, .int .u64 c]).run Try.prog w = .ok (.value (.tuple #[.int .u64 ((x - y - c) % 18446744073709551616), .int .u64 (if x < y + c then 1 else 0)])) w := by
  rw [run_callFunc_extern Try.func44 (by kernel_rfl) (by kernel_rfl) (by kernel_rfl) (e := (Extern.MathBitsCarry.rows[1]).2) (by kernel_rfl)]
  have h : ((Extern.MathBitsCarry.rows[1]).2 #[.int .u64 x, .int .u64 y, .int .u64 c]).run Try.prog w = .ok (.tuple #[.int .u64 (sbd x y c), .int .u64 (sbc x y c)]) w := by
    rcases hc with rfl | rfl <;> rfl
  rw [h]
  have e1 : sbd x y c = (x - y - c) % 18446744073709551616 := by unfold sbd; omega
  have e2 : sbc x y c = if x < y + c then 1 else 0 := by
    unfold sbc
    by_cases h : x < y + c
    · rw [if_pos h, if_pos (by omega)]; rfl
    · rw [if_neg h, if_neg (by omega)]; rfl
  rw [e1, e2]
  rfl

theorem cm_and1 (x : Int) (h : 0 ≤ x ∧ x < 18446744073709551616) : bits .and .u64 18446744073709551615 x = x := by
  rw [u64_and _ x (by decide) (by decide) h.1 h.2, Nat.and_comm, show (18446744073709551615 : Int).toNat = 2 ^ 64 - 1 from rfl, Nat.and_two_pow_sub_one_eq_mod]
  omega
theorem cm_and0 (x : Int) (h : 0 ≤ x ∧ x < 18446744073709551616) : bits .and .u64 0 x = 0 := by
  rw [u64_and _ x (by decide) (by decide) h.1 h.2]
  simp
theorem cm_or0 (x : Int) (h : 0 ≤ x ∧ x < 18446744073709551616) : bits .or .u64 0 x = x := by
  rw [u64_or 0 x (by decide) (by decide) h.1 h.2]
  simp; omega
theorem cm_or0' (x : Int) (h : 0 ≤ x ∧ x < 18446744073709551616) : bits .or .u64 x 0 = x := by
  rw [u64_or x 0 h.1 h.2 (by decide) (by decide)]
  simp; omega
theorem cmov_0 (ad : Addr) (x y : Int) (u : Value) (w : World) (hx : 0 ≤ x ∧ x < 18446744073709551616) (hy : 0 ≤ y ∧ y < 18446744073709551616) (hu : w.cell? ad = some u) (hf : w.frozen? ad = false) :
    Calls Try.prog 68 #[.pointer (some ad), .int .u64 0, .int .u64 x, .int .u64 y] w fun e w' => e = .returned (.tuple #[]) ∧ w' = w.setCell ad (.int .u64 x) := by
  go_enter Try.func68, Try.ntmps68
  go_wp2
  refine bodyPost_end (results_none rfl _ _ _) rfl ⟨rfl, ?_⟩
  rw [show bits BinOp.xor IntKind.u64 IntKind.u64.max 0 = 18446744073709551615 from by decide +kernel, cm_and0 y hy, cm_and1 x hx, cm_or0 x hx]
theorem cmov_1 (ad : Addr) (x y : Int) (u : Value) (w : World) (hx : 0 ≤ x ∧ x < 18446744073709551616) (hy : 0 ≤ y ∧ y < 18446744073709551616) (hu : w.cell? ad = some u) (hf : w.frozen? ad = false) :
    Calls Try.prog 68 #[.pointer (some ad), .int .u64 1, .int .u64 x, .int .u64 y] w fun e w' => e = .returned (.tuple #[]) ∧ w' = w.setCell ad (.int .u64 y) := by
  go_enter Try.func68, Try.ntmps68
  go_wp2
  refine bodyPost_end (results_none rfl _ _ _) rfl ⟨rfl, ?_⟩
  rw [show bits BinOp.xor IntKind.u64 IntKind.u64.max 18446744073709551615 = 0 from by decide +kernel, cm_and1 y hy, cm_and0 x hx, cm_or0' y hy]

def D0 : EngD where
  fmul := 66
  fadd := 67
  fsub := 44
  fcmov := 68
  cm := true
  arr := fun t => if Nat.beq t 59 || Nat.beq t 60 || Nat.beq t 105 then 4 else if Nat.beq t 22 then 32 else 0
  word := fun t => if Nat.beq t 54 then some .u64 else if Nat.beq t 5 then some .u8 else if Nat.beq t 117 then some .u64 else none

theorem D0_word (t : TypeId) (k : IntKind) (h : D0.word t = some k) : Try.prog.underlying t = some (.int k) := by
  simp only [D0] at h
  split at h
  · rename_i e
    obtain rfl := Nat.eq_of_beq_eq_true e
    obtain rfl := Option.some.inj h
    exact Try.underlying54
  · split at h
    · rename_i e
      obtain rfl := Nat.eq_of_beq_eq_true e
      obtain rfl := Option.some.inj h
      exact Try.underlying5
    · split at h
      · rename_i e
        obtain rfl := Nat.eq_of_beq_eq_true e
        obtain rfl := Option.some.inj h
        exact Try.underlying117
      · cases h
theorem D0_size (t : TypeId) (k : IntKind) (h : D0.word t = some k) (w : World) : (sizeOf t).run Try.prog w = .ok 1 w := by
  simp only [D0] at h
  split at h
  · rename_i e
    obtain rfl := Nat.eq_of_beq_eq_true e
    simp [go_sem]
  · split at h
    · rename_i e
      obtain rfl := Nat.eq_of_beq_eq_true e
      simp [go_sem]
    · split at h
      · rename_i e
        obtain rfl := Nat.eq_of_beq_eq_true e
        simp [go_sem]
      · cases h
theorem D0_arr (t : TypeId) (h : 0 < D0.arr t) : Try.prog.underlying t = some (.array (D0.arr t) (Try.prog.elem t)) ∧ ∀ w, (sizeOf (Try.prog.elem t)).run Try.prog w = .ok 1 w := by
  simp only [D0] at h ⊢
  split at h
  · rename_i e
    rw [if_pos e]
    simp only [Bool.or_eq_true] at e
    rcases e with (e | e) | e <;> obtain rfl := Nat.eq_of_beq_eq_true e <;> simp [go_sem]
  · rename_i e
    rw [if_neg e]
    split at h
    · rename_i e
      rw [if_pos e]
      obtain rfl := Nat.eq_of_beq_eq_true e
      simp [go_sem]
    · exact absurd h (by decide)

theorem S0 : EngM Try.prog D0 where
  emul := fun args w => by
    simp only [D0]
    simp [go_sem]
  hmul := fun x y w h1 h2 h3 h4 => Mul64_int x y w h1 h2 h3 h4
  hadd := fun x y c w h1 h2 h3 h4 h5 => Add64_int x y c w h1 h2 h3 h4 h5
  hsub := fun x y c w h1 h2 h3 h4 h5 => Sub64_int x y c w h1 h2 h3 h4 h5
  harr := D0_arr
  hword := D0_word
  fol := by kernel_rfl
  hstore := fun t k ht ad x u w hu hf => by
    have h := D0_word t k ht
    simp [Instr.storeAt, Instr.sureAddr, storeVar, isAgg, run_underlying h, D0_size t k ht, hu, hf, go_sem]
  halloc := fun t ht w => by
    simp only [D0] at ht
    split at ht
    · rename_i e
      obtain rfl := Nat.eq_of_beq_eq_true e
      simp [Instr.alloc, newVar, go_sem]
    · split at ht
      · cases ht
      · split at ht
        · rename_i e
          obtain rfl := Nat.eq_of_beq_eq_true e
          simp [Instr.alloc, newVar, go_sem]
        · cases ht
  ecmov := fun _ args w => by
    simp only [D0]
    simp [go_sem]
  hcmov := fun _ ad b x y u w hb hx0 hx hy0 hy hu hf => by
    rcases hb with rfl | rfl
    · exact cmov_0 ad x y u w ⟨hx0, hx⟩ ⟨hy0, hy⟩ hu hf
    · exact cmov_1 ad x y u w ⟨hx0, hx⟩ ⟨hy0, hy⟩ hu hf
end Go.Proofs.Ytgdjmgcolipcnaa
