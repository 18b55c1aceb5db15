/-
  What is proved here: the field of the prime of P-256 and the curve's cubic over it. No program in sight.
  Conditions: those of each theorem.
-/
import Derived.Test.YtblhnmahkabmiaaNT
namespace Go.Proofs.Ytblhnmahkabmiaa.Ecp

/-- The prime. -/
def pN : Nat := 115792089210356248762697446949407573530086143415290314195533631308867097853951
instance : NeZero pN := ⟨by decide⟩
theorem pN_prime : IsPrime pN := prime_115792089210356248762697446949407573530086143415290314195533631308867097853951
theorem pN_pos : 0 < pN := by decide
theorem pN_one : 1 < pN := by decide
/-- The field. -/
abbrev Fp := Fin pN

section
variable {n : Nat} [NeZero n]
theorem g_sub (a b : Fin n) (h : a - b = 0) : a = b := by grind -lia
theorem g_sub' (a b : Fin n) (h : a ≠ b) : a - b ≠ 0 := fun e => h (g_sub a b e)
theorem g_zero_mul (a : Fin n) : 0 * a = 0 := by grind -lia
theorem g_mul_zero (a : Fin n) : a * 0 = 0 := by grind -lia
theorem g_one_mul (a : Fin n) : 1 * a = a := by grind -lia
theorem g_mul_one (a : Fin n) : a * 1 = a := by grind -lia
theorem g_mul_comm (a b : Fin n) : a * b = b * a := by grind -lia
theorem g_can (a b c : Fin n) (h : a * b = a * c) : a * (b - c) = 0 := by grind -lia
theorem g_mul_assoc (a b c : Fin n) : a * b * c = a * (b * c) := by grind -lia
end

theorem one_ne : (1 : Fp) ≠ 0 := by
  intro h
  have := congrArg Fin.val h
  exact absurd this (by decide +kernel)
theorem two_ne : (2 : Fp) ≠ 0 := by
  intro h
  have := congrArg Fin.val h
  exact absurd this (by decide +kernel)
theorem three_ne : (3 : Fp) ≠ 0 := by
  intro h
  have := congrArg Fin.val h
  exact absurd this (by decide +kernel)
theorem val_zero' : ((0 : Fp) : Fin pN).val = 0 := by decide +kernel
theorem val_one' : ((1 : Fp) : Fin pN).val = 1 := by decide +kernel
theorem ne_zero_val {a : Fp} (h : a ≠ 0) : ¬ pN ∣ a.val := by
  intro hd
  apply h
  apply Fin.ext
  rw [val_zero']
  exact Nat.eq_zero_of_dvd_of_lt hd a.isLt
theorem mul_eq_zero' {a b : Fp} (h : a * b = 0) : a = 0 ∨ b = 0 := by
  have h1 : pN ∣ a.val * b.val := by
    have := congrArg Fin.val h
    rw [Fin.val_mul, val_zero'] at this
    exact Nat.dvd_of_mod_eq_zero this
  rcases pN_prime.dvd_mul h1 with h2 | h2
  · left
    by_cases e : a = 0
    · exact e
    · exact absurd h2 (ne_zero_val e)
  · right
    by_cases e : b = 0
    · exact e
    · exact absurd h2 (ne_zero_val e)
theorem mul_ne {a b : Fp} (ha : a ≠ 0) (hb : b ≠ 0) : a * b ≠ 0 := fun h => (mul_eq_zero' h).elim ha hb
theorem cancel {a b c : Fp} (ha : a ≠ 0) (h : a * b = a * c) : b = c := by
  have h1 : a * (b - c) = 0 := g_can _ _ _ h
  exact g_sub _ _ ((mul_eq_zero' h1).resolve_left ha)

/-- Powers. -/
def fpow (a : Fp) (k : Nat) : Fp := ⟨a.val ^ k % pN, Nat.mod_lt _ pN_pos⟩
theorem fpow_val (a : Fp) (k : Nat) : (fpow a k).val = a.val ^ k % pN := rfl
theorem fpow_zero (a : Fp) : fpow a 0 = 1 := by
  apply Fin.ext
  rw [fpow_val, val_one', Nat.pow_zero]
  exact Nat.mod_eq_of_lt pN_one
theorem fpow_add (a : Fp) (j k : Nat) : fpow a (j + k) = fpow a j * fpow a k := by
  apply Fin.ext
  rw [Fin.val_mul, fpow_val, fpow_val, fpow_val, ← Nat.mul_mod, Nat.pow_add]
theorem fpow_one (a : Fp) : fpow a 1 = a := by
  apply Fin.ext
  rw [fpow_val, Nat.pow_one]
  exact Nat.mod_eq_of_lt a.isLt
theorem fpow_succ (a : Fp) (k : Nat) : fpow a (k + 1) = fpow a k * a := by rw [fpow_add, fpow_one]
theorem fpow_mul (a : Fp) (j k : Nat) : fpow a (j * k) = fpow (fpow a j) k := by
  apply Fin.ext
  rw [fpow_val, fpow_val, fpow_val, Nat.pow_mul, ← Nat.pow_mod]
theorem fpow_two (a : Fp) : fpow a 2 = a * a := by rw [fpow_succ, fpow_one]
theorem fpow_p (a : Fp) : fpow a pN = a := by
  apply Fin.ext
  rw [fpow_val, fermat pN_prime]
  exact Nat.mod_eq_of_lt a.isLt
/-- The inverse; of 0 it is 0. -/
def finv (a : Fp) : Fp := fpow a (pN - 2)
theorem mul_finv {a : Fp} (h : a ≠ 0) : a * finv a = 1 := by
  have h1 := fermat' pN_prime (ne_zero_val h)
  apply Fin.ext
  have e : pN - 1 = 1 + (pN - 2) := by decide
  rw [val_one', ← Nat.mod_eq_of_lt pN_one, ← h1, e]
  have := congrArg Fin.val (fpow_add a 1 (pN - 2))
  rw [fpow_one] at this
  rw [← fpow_val]
  exact this.symm
theorem finv_zero : finv 0 = 0 := by
  unfold finv
  apply Fin.ext
  rw [fpow_val, val_zero', Nat.zero_pow (by decide), Nat.zero_mod]
theorem finv_of {a b : Fp} (h : a * b = 1) : finv a = b := by
  have ha : a ≠ 0 := by
    rintro rfl
    rw [g_zero_mul] at h
    exact one_ne h.symm
  refine cancel ha ?_
  rw [mul_finv ha, h]
theorem finv_ne {a : Fp} (h : a ≠ 0) : finv a ≠ 0 := by
  intro e
  have h1 := mul_finv h
  rw [e, g_mul_zero] at h1
  exact one_ne h1.symm

/-- The curve's constant. -/
def cB : Fp := ⟨0x5ac635d8aa3a93e7b3ebbd55769886bc651d06b0cc53b0f63bce3c3e27d2604b, by decide⟩

/-! The cubic has no root: x to the power of p, modulo it. -/
def ofN (a : Nat) : Fp := Fin.ofNat pN a
theorem ofN_val (a : Nat) : (ofN a).val = a % pN := rfl
theorem ofN_add (a b : Nat) : ofN (a + b) = ofN a + ofN b := by
  apply Fin.ext; rw [Fin.val_add, ofN_val, ofN_val, ofN_val, ← Nat.add_mod]
theorem ofN_mul (a b : Nat) : ofN (a * b) = ofN a * ofN b := by
  apply Fin.ext; rw [Fin.val_mul, ofN_val, ofN_val, ofN_val, ← Nat.mul_mod]
theorem ofN_mod (a : Nat) : ofN (a % pN) = ofN a := by
  apply Fin.ext; rw [ofN_val, ofN_val, Nat.mod_mod]
/-- A quadratic polynomial by its three numbers, the lowest first. -/
structure Q3 where
  a : Nat
  b : Nat
  c : Nat
def Q3.ev (q : Q3) (x : Fp) : Fp := ofN q.a + ofN q.b * x + ofN q.c * (x * x)
def nB : Nat := 0x5ac635d8aa3a93e7b3ebbd55769886bc651d06b0cc53b0f63bce3c3e27d2604b
def mB : Nat := pN - nB
def Q3.mul (q r : Q3) : Q3 :=
  let c0 := q.a * r.a
  let c1 := q.a * r.b + q.b * r.a
  let c2 := q.a * r.c + q.b * r.b + q.c * r.a
  let c3 := q.b * r.c + q.c * r.b
  let c4 := q.c * r.c
  ⟨(c0 + mB * c3) % pN, (c1 + 3 * c3 + mB * c4) % pN, (c2 + 3 * c4) % pN⟩
theorem ofN_mB : ofN mB = 0 - cB := by decide +kernel
theorem ofN_3 : ofN 3 = 3 := rfl
section
variable {n : Nat} [NeZero n]
theorem g_q3 (b x a0 a1 a2 b0 b1 b2 : Fin n) (h : x * x * x - 3 * x + b = 0) :
    (a0 * b0 + (0 - b) * (a1 * b2 + a2 * b1)) + (a0 * b1 + a1 * b0 + 3 * (a1 * b2 + a2 * b1) + (0 - b) * (a2 * b2)) * x + (a0 * b2 + a1 * b1 + a2 * b0 + 3 * (a2 * b2)) * (x * x)
      = (a0 + a1 * x + a2 * (x * x)) * (b0 + b1 * x + b2 * (x * x)) := by grind -lia
end
section
variable {n : Nat} [NeZero n]
theorem g_qg (a b c x : Fin n) (h : a + b * x + c * (x * x) = x) : a + (b + (0 - 1)) * x + c * (x * x) = 0 := by grind -lia
theorem g_q1 (x : Fin n) (h : 1 + 0 * x + 0 * (x * x) = 0) : (1 : Fin n) = 0 := by grind -lia
theorem g_q2 (x : Fin n) : 1 + 0 * x + 0 * (x * x) = 1 := by grind -lia
theorem g_q4 (x : Fin n) : 0 + 1 * x + 0 * (x * x) = x := by grind -lia
end
theorem Q3.ev_mul (q r : Q3) (x : Fp) (h : x * x * x - 3 * x + cB = 0) : (q.mul r).ev x = q.ev x * r.ev x := by
  have := g_q3 cB x (ofN q.a) (ofN q.b) (ofN q.c) (ofN r.a) (ofN r.b) (ofN r.c) h
  simp only [Q3.ev, Q3.mul, ofN_mod, ofN_add, ofN_mul, ofN_mB, ofN_3]
  exact this
def Q3.pw : Nat → Nat → Q3
  | 0, _ => ⟨1, 0, 0⟩
  | k + 1, e =>
    let h := Q3.pw k (e / 2)
    if e % 2 = 0 then h.mul h else (h.mul h).mul ⟨0, 1, 0⟩
theorem ofN_0 : ofN 0 = 0 := by decide +kernel
theorem ofN_1 : ofN 1 = 1 := by decide +kernel
theorem Q3.ev_pw (x : Fp) (h : x * x * x - 3 * x + cB = 0) : ∀ k e, e < 2 ^ k → (Q3.pw k e).ev x = fpow x e
  | 0, e, he => by
    have : e = 0 := by simpa using he
    subst this
    rw [fpow_zero]
    simp only [Q3.pw, Q3.ev, ofN_0, ofN_1]
    exact g_q2 x
  | k + 1, e, he => by
    have ih := Q3.ev_pw x h k (e / 2) (by rw [Nat.pow_succ] at he; omega)
    simp only [Q3.pw]
    split
    · rename_i h0
      rw [Q3.ev_mul _ _ _ h, ih, ← fpow_add]
      congr 1; omega
    · rename_i h0
      rw [Q3.ev_mul _ _ _ h, Q3.ev_mul _ _ _ h, ih, ← fpow_add]
      have e1 : (Q3.mk 0 1 0).ev x = x := by
        simp only [Q3.ev, ofN_0, ofN_1]
        exact g_q4 x
      rw [e1, ← fpow_succ]
      congr 1; omega
/-- x to the power of p, less x, modulo the cubic; and what it is to be multiplied by for 1. -/
def qG : Q3 := ⟨(Q3.pw 256 pN).a, (Q3.pw 256 pN).b + (pN - 1), (Q3.pw 256 pN).c⟩
def qU : Q3 := ⟨76626890310466861426869089647039036757962535851890885406097439786770458211455, 74462945259064871768191128030512052509059297803194871526163573358218695456204, 34768139465301476436978405170953382516735956999154666452188405812258086013549⟩
theorem qU_qG : (qU.mul qG).a = 1 ∧ (qU.mul qG).b = 0 ∧ (qU.mul qG).c = 0 := by decide +kernel
theorem ofN_m1 : ofN (pN - 1) = 0 - 1 := by decide +kernel
theorem no_root (x : Fp) : x * x * x - 3 * x + cB ≠ 0 := by
  intro h
  have h1 := Q3.ev_pw x h 256 pN (by decide)
  rw [fpow_p] at h1
  have h2 : qG.ev x = 0 := by
    simp only [qG, Q3.ev, ofN_add, ofN_m1]
    simp only [Q3.ev] at h1
    generalize ofN (Q3.pw 256 pN).a = a at *
    generalize ofN (Q3.pw 256 pN).b = b at *
    generalize ofN (Q3.pw 256 pN).c = c at *
    clear h
    exact g_qg a b c x h1
  have h3 := Q3.ev_mul qU qG x h
  rw [h2, g_mul_zero] at h3
  obtain ⟨e1, e2, e3⟩ := qU_qG
  simp only [Q3.ev, e1, e2, e3, ofN_0, ofN_1] at h3
  clear h1 h2 h e1 e2 e3
  exact one_ne (g_q1 x h3)
end Go.Proofs.Ytblhnmahkabmiaa.Ecp
