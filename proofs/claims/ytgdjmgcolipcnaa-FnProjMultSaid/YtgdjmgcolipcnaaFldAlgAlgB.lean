/-
  What is proved here: the field of the prime of P-256 and the curve's cubic over it. No program in sight.
  Conditions: those of each theorem.
-/
import Derived.Test.YtgdjmgcolipcnaaNT
namespace Go.Proofs.Ytgdjmgcolipcnaa.Ecp

/-- The prime. -/
def pN : Nat := 115792089210356248762697446949407573530086143415290314195533631308867097853951
instance : NeZero pN := ⟨by decide⟩
theorem pN_prime : IsPrime pN := prime_115792089210356248762697446949407573530086143415290314195533631308867097853951
theorem pN_pos : 0 < pN := by decide
theorem pN_one : 1 < pN := by decide
/-- The field. -/
abbrev Fp := Fin pN

section
variable {n : Nat} [NeZero n]
theorem g_sub (a b : Fin n) (h : a - b = 0) : a = b := by grind -lia
theorem g_sub' (a b : Fin n) (h : a ≠ b) : a - b ≠ 0 := fun e => h (g_sub a b e)
theorem g_zero_mul (a : Fin n) : 0 * a = 0 := by grind -lia
theorem g_mul_zero (a : Fin n) : a * 0 = 0 := by grind -lia
theorem g_one_mul (a : Fin n) : 1 * a = a := by grind -lia
theorem g_mul_one (a : Fin n) : a * 1 = a := by grind -lia
theorem g_mul_comm (a b : Fin n) : a * b = b * a := by grind -lia
theorem g_can (a b c : Fin n) (h : a * b = a * c) : a * (b - c) = 0 := by grind -lia
theorem g_mul_assoc (a b c : Fin n) : a * b * c = a * (b * c) := by grind -lia
end

theorem one_ne : (1 : Fp) ≠ 0 := by
  intro h
  have := congrArg Fin.val h
  exact absurd this (by decide +kernel)
theorem two_ne : (2 : Fp) ≠ 0 := by
  intro h
  have := congrArg Fin.val h
  exact absurd this (by decide +kernel)
theorem three_ne : (3 : Fp) ≠ 0 := by
  intro h
  have := congrArg Fin.val h
  exact absurd this (by decide +kernel)
theorem val_zero' : ((0 : Fp) : Fin pN).val = 0 := by decide +kernel
theorem val_one' : ((1 : Fp) : Fin pN).val = 1 := by decide +kernel
theorem ne_zero_val {a : Fp} (h : a ≠ 0) : ¬ pN ∣ a.val := by
  intro hd
  apply h
  apply Fin.ext
  rw [val_zero']
  exact Nat.eq_zero_of_dvd_of_lt hd a.isLt
theorem mul_eq_zero' {a b : Fp} (h : a * b = 0) : a = 0 ∨ b = 0 := by
  have h1 : pN ∣ a.val * b.val := by
    have := congrArg Fin.val h
    rw [Fin.val_mul, val_zero'] at this
    exact Nat.dvd_of_mod_eq_zero this
  rcases pN_prime.dvd_mul h1 with h2 | h2
  · left
    by_cases e : a = 0
    · exact e
    · exact absurd h2 (ne_zero_val e)
  · right
    by_cases e : b = 0
    · exact e
    · exact absurd h2 (ne_zero_val e)
theorem mul_ne {a b : Fp} (ha : a ≠ 0) (hb : b ≠ 0) : a * b ≠ 0 := fun h => (mul_eq_zero' h).elim ha hb
theorem cancel {a b c : Fp} (ha : a ≠ 0) (h : a * b = a * c) : b = c := by
  have h1 : a * (b - c) = 0 := g_can _ _ _ h
  exact g_sub _ _ ((mul_eq_zero' h1).resolve_left ha)

/-- Powers. -/
def fpow (a : Fp) (k : Nat) : Fp := ⟨a.val ^ k % pN, Nat.mod_lt _ pN_pos⟩
theorem fpow_val (a : Fp) (k : Nat) : (fpow a k).val = a.val ^ k % pN := rfl
theorem fpow_zero (a : Fp) : fpow a 0 = 1 := by
  apply Fin.ext
  rw [fpow_val, val_one', Nat.pow_zero]
  exact Nat.mod_eq_of_lt pN_one
theorem fpow_add (a : Fp) (j k : Nat) : fpow a (j + k) = fpow a j * fpow a k := by
  apply Fin.ext
  rw [Fin.val_mul, fpow_val, fpow_val, fpow_val, ← Nat.mul_mod, Nat.pow_add]
theorem fpow_one (a : Fp) : fpow a 1 = a := by
  apply Fin.ext
  rw [fpow_val, Nat.pow_one]
  exact Nat.mod_eq_of_lt a.isLt
theorem fpow_succ (a : Fp) (k : Nat) : fpow a (k + 1) = fpow a k * a := by rw [fpow_add, fpow_one]
theorem fpow_mul (a : Fp) (j k : Nat) : fpow a (j * k) = fpow (fpow a j) k := by
  apply Fin.ext
  rw [fpow_val, fpow_val, fpow_val, Nat.pow_mul, ← Nat.pow_mod]
theorem fpow_two (a : Fp) : fpow a 2 = a * a := by rw [fpow_succ, fpow_one]
theorem fpow_p (a : Fp) : fpow a pN = a := by
  apply Fin.ext
  rw [fpow_val, fermat pN_prime]
  exact Nat.mod_eq_of_lt a.isLt
/-- The inverse; of 0 it is 0. -/
def finv (a : Fp) : Fp := fpow a (pN - 2)
theorem mul_finv {a : Fp} (h : a ≠ 0) : a * finv a = 1 := by
  have h1 := fermat' pN_prime (ne_zero_val h)
  apply Fin.ext
  have e : pN - 1 = 1 + (pN - 2) := by decide
  rw [val_one', ← Nat.mod_eq_of_lt pN_one, ← h1, e]
  have := congrArg Fin.val (fpow_add a 1 (pN - 2))
  rw [fpow_one] at this
  rw [← fpow_val]
  exact this.symm
theorem finv_zero : finv 0 = 0 := by
  unfold finv
  apply Fin.ext
  rw [fpow_val, val_zero', Nat.zero_pow (by decide), Nat.zero_mod]
theorem finv_of {a b : Fp} (h : a * b = 1) : finv a = b := by
  have ha : a ≠ 0 := by
    rintro rfl
    rw [g_zero_mul] at h
    exact one_ne h.symm
  refine cancel ha ?_
  rw [mul_finv ha, h]
theorem finv_ne {a : Fp} (h : a ≠ 0) : finv a ≠ 0 := by
  intro e
  have h1 := mul_finv h
  rw [e, g_mul_zero] at h1
  exact one_ne h1.symm

/-- The curve's constant. -/
def cB : Fp := ⟨0x5ac635d8aa3a93e7b3ebbd55769886bc651d06b0cc53b0f63bce3c3e27d2604b, by decide⟩

/-! The cubic has no root: x to the power of p, modulo it. -/
def ofN (a : Nat) : Fp := Fin.ofNat pN a
theorem ofN_val (a : Nat) : (ofN a).val = a % pN := rfl
theorem ofN_add (a b : Nat) : ofN (a + b) = ofN a + ofN b := by
  apply Fin.ext; rw [Fin.val_add, ofN_val, ofN_val, ofN_val, ← Nat.add_mod]
theorem ofN_mul (a b : Nat) : ofN (a * b) = ofN a * ofN b := by
  apply Fin.ext; rw [Fin.val_mul, ofN_val, ofN_val, ofN_val, ← Nat.mul_mod]
theorem ofN_mod (a : Nat) : ofN (a % pN) = ofN a := by
  apply Fin.ext; rw [ofN_val, ofN_val, Nat.mod_mod]
/-- A quadratic polynomial by its three numbers, the lowest first. -/
structure Q3 where
  a : Nat
  b : Nat
  c : Nat
def Q3.ev (q : Q3) (x : Fp) : Fp := ofN q.a + ofN q.b * x + ofN q.c * (x * x)
def nB : Nat := 0x5ac635d8aa3a93e7b3ebbd55769886bc651d06b0cc53b0f63bce3c3e27d2604b
def mB : Nat := pN - nB
def Q3.mul (q r : Q3) : Q3 :=
  let c0 := q.a * r.a
  let c1 := q.a * r.b + q.b * r.a
  let c2 := q.a * r.c + q.b * r.b + q.c * r.a
  let c3 := q.b * r.c + q.c * r.b
  let c4 := q.c * r.c
  ⟨(c0 + mB * c3) % pN, (c1 + 3 * c3 + mB * c4) % pN, (c2 + 3 * c4) % pN⟩
theorem ofN_mB : ofN mB = 0 - cB := by decide +kernel
theorem ofN_3 : ofN 3 = 3 := rfl
section
variable {n : Nat} [NeZero n]
theorem g_q3 (b x a0 a1 a2 b0 b1 b2 : Fin n) (h : x * x * x - 3 * x + b = 0) :
    (a0 * b0 + (0 - b) * (a1 * b2 + a2 * b1)) + (a0 * b1 + a1 * b0 + 3 * (a1 * b2 + a2 * b1) + (0 - b) * (a2 * b2)) * x + (a0 * b2 + a1 * b1 + a2 * b0 + 3 * (a2 * b2)) * (x * x)
      = (a0 + a1 * x + a2 * (x * x)) * (b0 + b1 * x + b2 * (x * x)) := by grind -lia
end
section
variable {n : Nat} [NeZero n]
theorem g_qg (a b c x : Fin n) (h : a + b * x + c * (x * x) = x) : a + (b + (0 - 1)) * x + c * (x * x) = 0 := by grind -lia
theorem g_q1 (x : Fin n) (h : 1 + 0 * x + 0 * (x * x) = 0) : (1 : Fin n) = 0 := by grind -lia
theorem g_q2 (x : Fin n) : 1 + 0 * x + 0 * (x * x) = 1 := by grind -lia
theorem g_q4 (x : Fin n) : 0 + 1 * x + 0 * (x * x) = x := by grind -lia
end
theorem Q3.ev_mul (q r : Q3) (x : Fp) (h : x * x * x - 3 * x + cB = 0) : (q.mul r).ev x = q.ev x * r.ev x := by
  have := g_q3 cB x (ofN q.a) (ofN q.b) (ofN q.c) (ofN r.a) (ofN r.b) (ofN r.c) h
  simp only [Q3.ev, Q3.mul, ofN_mod, ofN_add, ofN_mul, ofN_mB, ofN_3]
  exact this
def Q3.pw : Nat → Nat → Q3
  | 0, _ => ⟨1, 0, 0⟩
  | k + 1, e =>
    let h := Q3.pw k (e / 2)
    if e % 2 = 0 then h.mul h else (h.mul h).mul ⟨0, 1, 0⟩
theorem ofN_0 : ofN 0 = 0 := by decide +kernel
theorem ofN_1 : ofN 1 = 1 := by decide +kernel
theorem Q3.ev_pw (x : Fp) (h : x * x * x - 3 * x + cB = 0) : ∀ k e, e < 2 ^ k → (Q3.pw k e).ev x = fpow x e
  | 0, e, he => by
    have : e = 0 := by simpa using he
    subst this
    rw [fpow_zero]
    simp only [Q3.pw, Q3.ev, ofN_0, ofN_1]
    exact g_q2 x
  | k + 1, e, he => by
    have ih := Q3.ev_pw x h k (e / 2) (by rw [Nat.pow_succ] at he; omega)
    simp only [Q3.pw]
    split
    · rename_i h0
      rw [Q3.ev_mul _ _ _ h, ih, ← fpow_add]
      congr 1; omega
    · rename_i h0
      rw [Q3.ev_mul _ _ _ h, Q3.ev_mul _ _ _ h, ih, ← fpow_add]
      have e1 : (Q3.mk 0 1 0).ev x = x := by
        simp only [Q3.ev, ofN_0, ofN_1]
        exact g_q4 x
      rw [e1, ← fpow_succ]
      congr 1; omega
/-- x to the power of p, less x, modulo the cubic; and what it is to be multiplied by for 1. -/
def qG : Q3 := ⟨(Q3.pw 256 pN).a, (Q3.pw 256 pN).b + (pN - 1), (Q3.pw 256 pN).c⟩
def qU : Q3 := ⟨76626890310466861426869089647039036757962535851890885406097439786770458211455, 74462945259064871768191128030512052509059297803194871526163573358218695456204, 34768139465301476436978405170953382516735956999154666452188405812258086013549⟩
theorem qU_qG : (qU.mul qG).a = 1 ∧ (qU.mul qG).b = 0 ∧ (qU.mul qG).c = 0 := by decide +kernel
theorem ofN_m1 : ofN (pN - 1) = 0 - 1 := by decide +kernel
theorem no_root (x : Fp) : x * x * x - 3 * x + cB ≠ 0 := by
  intro h
  have h1 := Q3.ev_pw x h 256 pN (by decide)
  rw [fpow_p] at h1
  have h2 : qG.ev x = 0 := by
    simp only [qG, Q3.ev, ofN_add, ofN_m1]
    simp only [Q3.ev] at h1
    generalize ofN (Q3.pw 256 pN).a = a at *
    generalize ofN (Q3.pw 256 pN).b = b at *
    generalize ofN (Q3.pw 256 pN).c = c at *
    clear h
    exact g_qg a b c x h1
  have h3 := Q3.ev_mul qU qG x h
  rw [h2, g_mul_zero] at h3
  obtain ⟨e1, e2, e3⟩ := qU_qG
  simp only [Q3.ev, e1, e2, e3, ofN_0, ofN_1] at h3
  clear h1 h2 h e1 e2 e3
  exact one_ne (g_q1 x h3)
end Go.Proofs.Ytgdjmgcolipcnaa.Ecp
/-
  What is proved here: the curve's sum by chord and tangent, and that the complete formulas for sums compute it. No program in sight.
  Conditions: those of each theorem.
-/
namespace Go.Proofs.Ytgdjmgcolipcnaa.Ecp
set_option linter.unusedVariables false

/-- A point: infinitely far, or of two coordinates. -/
inductive Pt where
  | far
  | aff (x y : Fp)

def Onc (x y : Fp) : Prop := y * y = x * x * x - 3 * x + cB
def Pt.on : Pt → Prop
  | .far => True
  | .aff x y => Onc x y

section
variable {n : Nat} [NeZero n]
/-- The chord, or the tangent: the third point lies on the curve. -/
theorem g_third (b x1 y1 x2 l : Fin n) (h1 : y1 * y1 = x1 * x1 * x1 - 3 * x1 + b) (h2 : l * (y1 + y1) = l * l * (x1 - x2) + x1 * x1 + x1 * x2 + x2 * x2 - 3) :
    (l * (x1 - (l * l - x1 - x2)) - y1) * (l * (x1 - (l * l - x1 - x2)) - y1) = (l * l - x1 - x2) * (l * l - x1 - x2) * (l * l - x1 - x2) - 3 * (l * l - x1 - x2) + b := by grind -lia
theorem g_chord (b x1 y1 x2 y2 l : Fin n) (h1 : y1 * y1 = x1 * x1 * x1 - 3 * x1 + b) (h2 : y2 * y2 = x2 * x2 * x2 - 3 * x2 + b) (hl : l * (x1 - x2) = y1 - y2) :
    (x1 - x2) * (l * (y1 + y1)) = (x1 - x2) * (l * l * (x1 - x2) + x1 * x1 + x1 * x2 + x2 * x2 - 3) := by grind -lia
end

/-- The third point by a slope, turned over. -/
def thirdX (l x1 x2 : Fp) : Fp := l * l - x1 - x2
def thirdY (l x1 y1 x2 : Fp) : Fp := l * (x1 - thirdX l x1 x2) - y1

theorem third_on {x1 y1 x2 l : Fp} (h1 : Onc x1 y1) (h2 : l * (y1 + y1) = l * l * (x1 - x2) + x1 * x1 + x1 * x2 + x2 * x2 - 3) : Onc (thirdX l x1 x2) (thirdY l x1 y1 x2) :=
  g_third cB x1 y1 x2 l h1 h2

theorem chord_on {x1 y1 x2 y2 l : Fp} (h1 : Onc x1 y1) (h2 : Onc x2 y2) (hd : x1 - x2 ≠ 0) (hl : l * (x1 - x2) = y1 - y2) : Onc (thirdX l x1 x2) (thirdY l x1 y1 x2) :=
  third_on h1 (cancel hd (g_chord cB x1 y1 x2 y2 l h1 h2 hl))

theorem Onc.y_ne {x y : Fp} (h : Onc x y) : y ≠ 0 := by
  rintro rfl
  unfold Onc at h
  rw [g_zero_mul] at h
  exact no_root x h.symm

/-! The complete formulas. -/
def fA (X1 Y1 X2 Y2 : Fp) : Fp := X1 * Y2 + X2 * Y1
def addX (X1 Y1 Z1 X2 Y2 Z2 : Fp) : Fp :=
  (X1 * Y2 + X2 * Y1) * (Y1 * Y2 + 3 * (X1 * Z2 + X2 * Z1 - cB * (Z1 * Z2))) - (Y1 * Z2 + Y2 * Z1) * (3 * (cB * (X1 * Z2 + X2 * Z1) - 3 * (Z1 * Z2) - X1 * X2))
def addY (X1 Y1 Z1 X2 Y2 Z2 : Fp) : Fp :=
  (Y1 * Y2 + 3 * (X1 * Z2 + X2 * Z1 - cB * (Z1 * Z2))) * (Y1 * Y2 - 3 * (X1 * Z2 + X2 * Z1 - cB * (Z1 * Z2))) + (3 * (X1 * X2) - 3 * (Z1 * Z2)) * (3 * (cB * (X1 * Z2 + X2 * Z1) - 3 * (Z1 * Z2) - X1 * X2))
def addZ (X1 Y1 Z1 X2 Y2 Z2 : Fp) : Fp :=
  (Y1 * Z2 + Y2 * Z1) * (Y1 * Y2 - 3 * (X1 * Z2 + X2 * Z1 - cB * (Z1 * Z2))) + (X1 * Y2 + X2 * Y1) * (3 * (X1 * X2) - 3 * (Z1 * Z2))

section
variable {n : Nat} [NeZero n]
theorem g_scX (cB c d X1 Y1 Z1 X2 Y2 Z2 : Fin n) : (c * X1 * (d * Y2) + d * X2 * (c * Y1)) * (c * Y1 * (d * Y2) + 3 * (c * X1 * (d * Z2) + d * X2 * (c * Z1) - cB * (c * Z1 * (d * Z2)))) - (c * Y1 * (d * Z2) + d * Y2 * (c * Z1)) * (3 * (cB * (c * X1 * (d * Z2) + d * X2 * (c * Z1)) - 3 * (c * Z1 * (d * Z2)) - c * X1 * (d * X2)))
   = c * c * (d * d) * ((X1 * Y2 + X2 * Y1) * (Y1 * Y2 + 3 * (X1 * Z2 + X2 * Z1 - cB * (Z1 * Z2))) - (Y1 * Z2 + Y2 * Z1) * (3 * (cB * (X1 * Z2 + X2 * Z1) - 3 * (Z1 * Z2) - X1 * X2))) := by grind -lia
theorem g_scY (cB c d X1 Y1 Z1 X2 Y2 Z2 : Fin n) : (c * Y1 * (d * Y2) + 3 * (c * X1 * (d * Z2) + d * X2 * (c * Z1) - cB * (c * Z1 * (d * Z2)))) * (c * Y1 * (d * Y2) - 3 * (c * X1 * (d * Z2) + d * X2 * (c * Z1) - cB * (c * Z1 * (d * Z2)))) + (3 * (c * X1 * (d * X2)) - 3 * (c * Z1 * (d * Z2))) * (3 * (cB * (c * X1 * (d * Z2) + d * X2 * (c * Z1)) - 3 * (c * Z1 * (d * Z2)) - c * X1 * (d * X2)))
   = c * c * (d * d) * ((Y1 * Y2 + 3 * (X1 * Z2 + X2 * Z1 - cB * (Z1 * Z2))) * (Y1 * Y2 - 3 * (X1 * Z2 + X2 * Z1 - cB * (Z1 * Z2))) + (3 * (X1 * X2) - 3 * (Z1 * Z2)) * (3 * (cB * (X1 * Z2 + X2 * Z1) - 3 * (Z1 * Z2) - X1 * X2))) := by grind -lia
theorem g_scZ (cB c d X1 Y1 Z1 X2 Y2 Z2 : Fin n) : (c * Y1 * (d * Z2) + d * Y2 * (c * Z1)) * (c * Y1 * (d * Y2) - 3 * (c * X1 * (d * Z2) + d * X2 * (c * Z1) - cB * (c * Z1 * (d * Z2)))) + (c * X1 * (d * Y2) + d * X2 * (c * Y1)) * (3 * (c * X1 * (d * X2)) - 3 * (c * Z1 * (d * Z2)))
   = c * c * (d * d) * ((Y1 * Z2 + Y2 * Z1) * (Y1 * Y2 - 3 * (X1 * Z2 + X2 * Z1 - cB * (Z1 * Z2))) + (X1 * Y2 + X2 * Y1) * (3 * (X1 * X2) - 3 * (Z1 * Z2))) := by grind -lia
end
theorem addX_sc (c d X1 Y1 Z1 X2 Y2 Z2 : Fp) : addX (c * X1) (c * Y1) (c * Z1) (d * X2) (d * Y2) (d * Z2) = c * c * (d * d) * addX X1 Y1 Z1 X2 Y2 Z2 := g_scX cB c d X1 Y1 Z1 X2 Y2 Z2
theorem addY_sc (c d X1 Y1 Z1 X2 Y2 Z2 : Fp) : addY (c * X1) (c * Y1) (c * Z1) (d * X2) (d * Y2) (d * Z2) = c * c * (d * d) * addY X1 Y1 Z1 X2 Y2 Z2 := g_scY cB c d X1 Y1 Z1 X2 Y2 Z2
theorem addZ_sc (c d X1 Y1 Z1 X2 Y2 Z2 : Fp) : addZ (c * X1) (c * Y1) (c * Z1) (d * X2) (d * Y2) (d * Z2) = c * c * (d * d) * addZ X1 Y1 Z1 X2 Y2 Z2 := g_scZ cB c d X1 Y1 Z1 X2 Y2 Z2

section
variable {n : Nat} [NeZero n]
theorem g_Z (b x1 y1 x2 y2 : Fin n) (h1 : y1 * y1 = x1 * x1 * x1 - 3 * x1 + b) (h2 : y2 * y2 = x2 * x2 * x2 - 3 * x2 + b) :
    (y1 * 1 + y2 * 1) * (y1 * y2 - 3 * (x1 * 1 + x2 * 1 - b * (1 * 1))) + (x1 * y2 + x2 * y1) * (3 * (x1 * x2) - 3 * (1 * 1)) =
      0 - ((y1 + y2) * ((x1 - x2) * (x1 - x2) * (x1 + x1 + x2) - (y1 + y2) * (y1 + y2)) - y1 * ((x1 - x2) * (x1 - x2) * (x1 - x2))) := by grind -lia
theorem g_X (b x1 y1 x2 y2 : Fin n) (h1 : y1 * y1 = x1 * x1 * x1 - 3 * x1 + b) (h2 : y2 * y2 = x2 * x2 * x2 - 3 * x2 + b) :
    ((x1 * y2 + x2 * y1) * (y1 * y2 + 3 * (x1 * 1 + x2 * 1 - b * (1 * 1))) - (y1 * 1 + y2 * 1) * (3 * (b * (x1 * 1 + x2 * 1) - 3 * (1 * 1) - x1 * x2))) * ((x1 - x2) * (x1 - x2)) =
      ((y1 - y2) * (y1 - y2) - (x1 + x2) * ((x1 - x2) * (x1 - x2))) * ((y1 * 1 + y2 * 1) * (y1 * y2 - 3 * (x1 * 1 + x2 * 1 - b * (1 * 1))) + (x1 * y2 + x2 * y1) * (3 * (x1 * x2) - 3 * (1 * 1))) := by grind -lia
theorem g_Y (b x1 y1 x2 y2 : Fin n) (h1 : y1 * y1 = x1 * x1 * x1 - 3 * x1 + b) (h2 : y2 * y2 = x2 * x2 * x2 - 3 * x2 + b) :
    ((y1 * y2 + 3 * (x1 * 1 + x2 * 1 - b * (1 * 1))) * (y1 * y2 - 3 * (x1 * 1 + x2 * 1 - b * (1 * 1))) + (3 * (x1 * x2) - 3 * (1 * 1)) * (3 * (b * (x1 * 1 + x2 * 1) - 3 * (1 * 1) - x1 * x2))) * ((x1 - x2) * (x1 - x2) * (x1 - x2)) =
      ((y1 - y2) * ((x1 - x2) * (x1 - x2) * (x1 + x1 + x2) - (y1 - y2) * (y1 - y2)) - y1 * ((x1 - x2) * (x1 - x2) * (x1 - x2))) * ((y1 * 1 + y2 * 1) * (y1 * y2 - 3 * (x1 * 1 + x2 * 1 - b * (1 * 1))) + (x1 * y2 + x2 * y1) * (3 * (x1 * x2) - 3 * (1 * 1))) := by grind -lia
end

section
variable {n : Nat} [NeZero n]
/-- The tangent: Z3 = 8 y^3. -/
theorem g_tZ (b x y : Fin n) (h : y * y = x * x * x - 3 * x + b) : (y * 1 + y * 1) * (y * y - 3 * (x * 1 + x * 1 - b * (1 * 1))) + (x * y + x * y) * (3 * (x * x) - 3 * (1 * 1)) = (y + y) * (y + y) * (y + y) := by grind -lia
theorem g_tX (b x y l : Fin n) (h : y * y = x * x * x - 3 * x + b) (hl : l * (y + y) = 3 * (x * x) - 3) :
    (x * y + x * y) * (y * y + 3 * (x * 1 + x * 1 - b * (1 * 1))) - (y * 1 + y * 1) * (3 * (b * (x * 1 + x * 1) - 3 * (1 * 1) - x * x)) = (y + y) * (y + y) * (y + y) * (l * l - x - x) := by grind -lia
theorem g_tY (b x y l : Fin n) (h : y * y = x * x * x - 3 * x + b) (hl : l * (y + y) = 3 * (x * x) - 3) :
    (y * y + 3 * (x * 1 + x * 1 - b * (1 * 1))) * (y * y - 3 * (x * 1 + x * 1 - b * (1 * 1))) + (3 * (x * x) - 3 * (1 * 1)) * (3 * (b * (x * 1 + x * 1) - 3 * (1 * 1) - x * x)) = (y + y) * (y + y) * (y + y) * (l * (x - (l * l - x - x)) - y) := by grind -lia
/-- A point and its opposite. -/
theorem g_oX (b x y : Fin n) : (x * (0 - y) + x * y) * (y * (0 - y) + 3 * (x * 1 + x * 1 - b * (1 * 1))) - (y * 1 + (0 - y) * 1) * (3 * (b * (x * 1 + x * 1) - 3 * (1 * 1) - x * x)) = 0 := by grind -lia
theorem g_oZ (b x y : Fin n) : (y * 1 + (0 - y) * 1) * (y * (0 - y) - 3 * (x * 1 + x * 1 - b * (1 * 1))) + (x * (0 - y) + x * y) * (3 * (x * x) - 3 * (1 * 1)) = 0 := by grind -lia
theorem g_oY (b x y l : Fin n) (h : y * y = x * x * x - 3 * x + b) (hl : l * (y + y) = 3 * (x * x) - 3) :
    (y * (0 - y) + 3 * (x * 1 + x * 1 - b * (1 * 1))) * (y * (0 - y) - 3 * (x * 1 + x * 1 - b * (1 * 1))) + (3 * (x * x) - 3 * (1 * 1)) * (3 * (b * (x * 1 + x * 1) - 3 * (1 * 1) - x * x)) = (y + y) * (y + y) * (y + y) * (l * (x - (l * l - x - x)) - y) := by grind -lia
theorem g_tan (b x y l : Fin n) (hl : l * (y + y) = 3 * (x * x) - 3) : l * (y + y) = l * l * (x - x) + x * x + x * x + x * x - 3 := by grind -lia
theorem g_two (y : Fin n) : y + y = 2 * y := by grind -lia
theorem g_cX (d x1 x2 l X Z : Fin n) (y1 y2 : Fin n) (hl : l * d = y1 - y2) (h : X * (d * d) = ((y1 - y2) * (y1 - y2) - (x1 + x2) * (d * d)) * Z) : d * d * X = d * d * ((l * l - x1 - x2) * Z) := by grind -lia
theorem g_cY (x1 y1 x2 y2 l Y Z : Fin n) (hl : l * (x1 - x2) = y1 - y2) (h : Y * ((x1 - x2) * (x1 - x2) * (x1 - x2)) = ((y1 - y2) * ((x1 - x2) * (x1 - x2) * (x1 + x1 + x2) - (y1 - y2) * (y1 - y2)) - y1 * ((x1 - x2) * (x1 - x2) * (x1 - x2))) * Z) :
    (x1 - x2) * (x1 - x2) * (x1 - x2) * Y = (x1 - x2) * (x1 - x2) * (x1 - x2) * ((l * (x1 - (l * l - x1 - x2)) - y1) * Z) := by grind -lia
theorem g_cZ (x1 y1 x2 y2 l Z : Fin n) (hl : l * (x1 - x2) = y1 - (0 - y2)) (h : Z = 0 - ((y1 + y2) * ((x1 - x2) * (x1 - x2) * (x1 + x1 + x2) - (y1 + y2) * (y1 + y2)) - y1 * ((x1 - x2) * (x1 - x2) * (x1 - x2)))) :
    0 - Z = (x1 - x2) * (x1 - x2) * (x1 - x2) * (l * (x1 - (l * l - x1 - x2)) - y1) := by grind -lia
theorem g_neg_on (b x y : Fin n) (h : y * y = x * x * x - 3 * x + b) : (0 - y) * (0 - y) = x * x * x - 3 * x + b := by grind -lia
theorem g_zero_sub (a : Fin n) (h : 0 - a = 0) : a = 0 := by grind -lia
theorem g_sub_zero (a : Fin n) (h : a = 0) : 0 - a = 0 := by grind -lia
theorem g_sq_eq (c y1 y2 : Fin n) (h1 : y1 * y1 = c) (h2 : y2 * y2 = c) : (y1 - y2) * (y1 + y2) = 0 := by grind -lia
theorem g_add_zero' (a b : Fin n) (h : a + b = 0) : b = 0 - a := by grind -lia
theorem g_neg_neg (a : Fin n) : 0 - (0 - a) = a := by grind -lia
theorem g_sub_neg (a b : Fin n) : a - b = 0 - (b - a) := by grind -lia
theorem g_slope (a b c d f : Fin n) (h : c * f = 1) : a * f * c = a := by grind -lia
theorem g_slope' (a b c d f : Fin n) (h : (b - c) * f = 1) : (d - a) * f * (c - b) = a - d := by grind -lia
theorem g_self (a : Fin n) : a - a = 0 := by grind -lia
theorem g_three (x y : Fin n) (h : y = 0 - y) : y + y = 0 := by grind -lia
end

theorem dbl_ne {y : Fp} (h : y ≠ 0) : y + y ≠ 0 := by
  rw [g_two]; exact mul_ne two_ne h

theorem Onc.neg {x y : Fp} (h : Onc x y) : Onc x (0 - y) := g_neg_on cB x y h

/-- The sum by chord and tangent. -/
def asum (x1 y1 x2 y2 : Fp) : Pt :=
  if x1 ≠ x2 then .aff (thirdX ((y2 - y1) * finv (x2 - x1)) x1 x2) (thirdY ((y2 - y1) * finv (x2 - x1)) x1 y1 x2)
  else if y1 ≠ y2 ∨ y1 = 0 then .far
  else .aff (thirdX ((3 * (x1 * x1) - 3) * finv (y1 + y1)) x1 x2) (thirdY ((3 * (x1 * x1) - 3) * finv (y1 + y1)) x1 y1 x2)
def psum : Pt → Pt → Pt
  | .far, .far => .far
  | .far, .aff x y => .aff x y
  | .aff x y, .far => .aff x y
  | .aff x1 y1, .aff x2 y2 => asum x1 y1 x2 y2
theorem psum_far (p : Pt) : psum .far p = p := by cases p <;> rfl
theorem psum_far' (p : Pt) : psum p .far = p := by cases p <;> rfl
def pneg : Pt → Pt
  | .far => .far
  | .aff x y => .aff x (0 - y)

theorem pneg_on {p : Pt} (h : p.on) : (pneg p).on := by
  cases p with
  | far => trivial
  | aff x y => exact Onc.neg h

/-- The three coordinates of a point. -/
def Rep (X Y Z : Fp) : Pt → Prop
  | .far => X = 0 ∧ Y ≠ 0 ∧ Z = 0
  | .aff x y => Z ≠ 0 ∧ X = Z * x ∧ Y = Z * y

theorem Rep.scale {X Y Z c : Fp} (hc : c ≠ 0) {p : Pt} (h : Rep X Y Z p) : Rep (c * X) (c * Y) (c * Z) p := by
  cases p with
  | far =>
    obtain ⟨rfl, h2, rfl⟩ := h
    exact ⟨g_mul_zero c, mul_ne hc h2, g_mul_zero c⟩
  | aff x y =>
    obtain ⟨h1, rfl, rfl⟩ := h
    exact ⟨mul_ne hc h1, (g_mul_assoc c Z x).symm, (g_mul_assoc c Z y).symm⟩

theorem aff_sum {x1 y1 x2 y2 : Fp} (h1 : Onc x1 y1) (h2 : Onc x2 y2) :
    Rep (addX x1 y1 1 x2 y2 1) (addY x1 y1 1 x2 y2 1) (addZ x1 y1 1 x2 y2 1) (psum (.aff x1 y1) (.aff x2 y2)) := by
  show Rep _ _ _ (asum x1 y1 x2 y2)
  unfold asum
  split
  · rename_i hne
    have hd : x1 - x2 ≠ 0 := g_sub' _ _ hne
    have hd' : x2 - x1 ≠ 0 := g_sub' _ _ (Ne.symm hne)
    have hl : (y2 - y1) * finv (x2 - x1) * (x1 - x2) = y1 - y2 := g_slope' y1 x2 x1 y2 _ (mul_finv hd')
    have hl' : (0 - y2 - y1) * finv (x2 - x1) * (x1 - x2) = y1 - (0 - y2) := g_slope' y1 x2 x1 (0 - y2) _ (mul_finv hd')
    have hz : addZ x1 y1 1 x2 y2 1 ≠ 0 := by
      intro e
      have h3 := g_cZ x1 y1 x2 y2 _ (addZ x1 y1 1 x2 y2 1) hl' (g_Z cB x1 y1 x2 y2 h1 h2)
      rw [g_sub_zero _ e] at h3
      have h4 : Onc _ _ := chord_on h1 h2.neg hd hl'
      exact mul_ne (mul_ne (mul_ne hd hd) hd) h4.y_ne h3.symm
    refine ⟨hz, ?_, ?_⟩
    · have := g_cX (x1 - x2) x1 x2 _ (addX x1 y1 1 x2 y2 1) (addZ x1 y1 1 x2 y2 1) y1 y2 hl (g_X cB x1 y1 x2 y2 h1 h2)
      rw [g_mul_comm (addZ _ _ _ _ _ _)]
      exact cancel (mul_ne hd hd) this
    · have := g_cY x1 y1 x2 y2 _ (addY x1 y1 1 x2 y2 1) (addZ x1 y1 1 x2 y2 1) hl (g_Y cB x1 y1 x2 y2 h1 h2)
      rw [g_mul_comm (addZ _ _ _ _ _ _)]
      exact cancel (mul_ne (mul_ne hd hd) hd) this
  · rename_i hne
    have e : x1 = x2 := Classical.not_not.1 hne
    subst e
    have hyy : y1 + y1 ≠ 0 := dbl_ne h1.y_ne
    have hl : (3 * (x1 * x1) - 3) * finv (y1 + y1) * (y1 + y1) = 3 * (x1 * x1) - 3 := g_slope (3 * (x1 * x1) - 3) 0 (y1 + y1) 0 _ (mul_finv hyy)
    have hon : Onc (thirdX ((3 * (x1 * x1) - 3) * finv (y1 + y1)) x1 x1) (thirdY ((3 * (x1 * x1) - 3) * finv (y1 + y1)) x1 y1 x1) :=
      third_on h1 (g_tan cB x1 y1 _ hl)
    have h8 := mul_ne (mul_ne hyy hyy) hyy
    split
    · rename_i hy
      have hne' : y1 ≠ y2 := hy.resolve_right h1.y_ne
      have hs := (mul_eq_zero' (g_sq_eq _ y1 y2 h1 h2)).resolve_left (g_sub' _ _ hne')
      have e2 := g_add_zero' _ _ hs
      subst e2
      refine ⟨g_oX cB x1 y1, ?_, g_oZ cB x1 y1⟩
      have := g_oY cB x1 y1 _ h1 hl
      unfold addY
      rw [this]
      intro e3
      exact mul_ne h8 hon.y_ne e3
    · rename_i hy
      have e2 : y1 = y2 := Classical.not_not.1 fun h => hy (.inl h)
      subst e2
      have hz : addZ x1 y1 1 x1 y1 1 = (y1 + y1) * (y1 + y1) * (y1 + y1) := g_tZ cB x1 y1 h1
      refine ⟨by rw [hz]; exact h8, ?_, ?_⟩
      · rw [hz]; exact g_tX cB x1 y1 _ h1 hl
      · rw [hz]; exact g_tY cB x1 y1 _ h1 hl

section
variable {n : Nat} [NeZero n]
theorem g_fX (b y1 X2 Y2 Z2 : Fin n) : (0 * Y2 + X2 * y1) * (y1 * Y2 + 3 * (0 * Z2 + X2 * 0 - b * (0 * Z2))) - (y1 * Z2 + Y2 * 0) * (3 * (b * (0 * Z2 + X2 * 0) - 3 * (0 * Z2) - 0 * X2)) = y1 * y1 * Y2 * X2 := by grind -lia
theorem g_fY (b y1 X2 Y2 Z2 : Fin n) : (y1 * Y2 + 3 * (0 * Z2 + X2 * 0 - b * (0 * Z2))) * (y1 * Y2 - 3 * (0 * Z2 + X2 * 0 - b * (0 * Z2))) + (3 * (0 * X2) - 3 * (0 * Z2)) * (3 * (b * (0 * Z2 + X2 * 0) - 3 * (0 * Z2) - 0 * X2)) = y1 * y1 * Y2 * Y2 := by grind -lia
theorem g_fZ (b y1 X2 Y2 Z2 : Fin n) : (y1 * Z2 + Y2 * 0) * (y1 * Y2 - 3 * (0 * Z2 + X2 * 0 - b * (0 * Z2))) + (0 * Y2 + X2 * y1) * (3 * (0 * X2) - 3 * (0 * Z2)) = y1 * y1 * Y2 * Z2 := by grind -lia
theorem g_symX (b X1 Y1 Z1 X2 Y2 Z2 : Fin n) : (X1 * Y2 + X2 * Y1) * (Y1 * Y2 + 3 * (X1 * Z2 + X2 * Z1 - b * (Z1 * Z2))) - (Y1 * Z2 + Y2 * Z1) * (3 * (b * (X1 * Z2 + X2 * Z1) - 3 * (Z1 * Z2) - X1 * X2)) =
   (X2 * Y1 + X1 * Y2) * (Y2 * Y1 + 3 * (X2 * Z1 + X1 * Z2 - b * (Z2 * Z1))) - (Y2 * Z1 + Y1 * Z2) * (3 * (b * (X2 * Z1 + X1 * Z2) - 3 * (Z2 * Z1) - X2 * X1)) := by grind -lia
theorem g_symY (b X1 Y1 Z1 X2 Y2 Z2 : Fin n) : (Y1 * Y2 + 3 * (X1 * Z2 + X2 * Z1 - b * (Z1 * Z2))) * (Y1 * Y2 - 3 * (X1 * Z2 + X2 * Z1 - b * (Z1 * Z2))) + (3 * (X1 * X2) - 3 * (Z1 * Z2)) * (3 * (b * (X1 * Z2 + X2 * Z1) - 3 * (Z1 * Z2) - X1 * X2)) =
   (Y2 * Y1 + 3 * (X2 * Z1 + X1 * Z2 - b * (Z2 * Z1))) * (Y2 * Y1 - 3 * (X2 * Z1 + X1 * Z2 - b * (Z2 * Z1))) + (3 * (X2 * X1) - 3 * (Z2 * Z1)) * (3 * (b * (X2 * Z1 + X1 * Z2) - 3 * (Z2 * Z1) - X2 * X1)) := by grind -lia
theorem g_symZ (b X1 Y1 Z1 X2 Y2 Z2 : Fin n) : (Y1 * Z2 + Y2 * Z1) * (Y1 * Y2 - 3 * (X1 * Z2 + X2 * Z1 - b * (Z1 * Z2))) + (X1 * Y2 + X2 * Y1) * (3 * (X1 * X2) - 3 * (Z1 * Z2)) =
   (Y2 * Z1 + Y1 * Z2) * (Y2 * Y1 - 3 * (X2 * Z1 + X1 * Z2 - b * (Z2 * Z1))) + (X2 * Y1 + X1 * Y2) * (3 * (X2 * X1) - 3 * (Z2 * Z1)) := by grind -lia
end
theorem addX_comm (X1 Y1 Z1 X2 Y2 Z2 : Fp) : addX X1 Y1 Z1 X2 Y2 Z2 = addX X2 Y2 Z2 X1 Y1 Z1 := g_symX cB X1 Y1 Z1 X2 Y2 Z2
theorem addY_comm (X1 Y1 Z1 X2 Y2 Z2 : Fp) : addY X1 Y1 Z1 X2 Y2 Z2 = addY X2 Y2 Z2 X1 Y1 Z1 := g_symY cB X1 Y1 Z1 X2 Y2 Z2
theorem addZ_comm (X1 Y1 Z1 X2 Y2 Z2 : Fp) : addZ X1 Y1 Z1 X2 Y2 Z2 = addZ X2 Y2 Z2 X1 Y1 Z1 := g_symZ cB X1 Y1 Z1 X2 Y2 Z2

theorem Rep.y_ne {X Y Z : Fp} {p : Pt} (h : Rep X Y Z p) (hp : p.on) : Y ≠ 0 := by
  cases p with
  | far => exact h.2.1
  | aff x y =>
    obtain ⟨h1, rfl, rfl⟩ := h
    exact mul_ne h1 (Onc.y_ne hp)

theorem far_sum {Y1 X2 Y2 Z2 : Fp} {q : Pt} (h1 : Y1 ≠ 0) (h2 : Rep X2 Y2 Z2 q) (hq : q.on) : Rep (addX 0 Y1 0 X2 Y2 Z2) (addY 0 Y1 0 X2 Y2 Z2) (addZ 0 Y1 0 X2 Y2 Z2) q := by
  have e1 : addX 0 Y1 0 X2 Y2 Z2 = Y1 * Y1 * Y2 * X2 := g_fX cB Y1 X2 Y2 Z2
  have e2 : addY 0 Y1 0 X2 Y2 Z2 = Y1 * Y1 * Y2 * Y2 := g_fY cB Y1 X2 Y2 Z2
  have e3 : addZ 0 Y1 0 X2 Y2 Z2 = Y1 * Y1 * Y2 * Z2 := g_fZ cB Y1 X2 Y2 Z2
  rw [e1, e2, e3]
  exact h2.scale (mul_ne (mul_ne h1 h1) (h2.y_ne hq))

/-- The complete formulas. -/
theorem add_rep {X1 Y1 Z1 X2 Y2 Z2 : Fp} {p q : Pt} (h1 : Rep X1 Y1 Z1 p) (h2 : Rep X2 Y2 Z2 q) (hp : p.on) (hq : q.on) :
    Rep (addX X1 Y1 Z1 X2 Y2 Z2) (addY X1 Y1 Z1 X2 Y2 Z2) (addZ X1 Y1 Z1 X2 Y2 Z2) (psum p q) := by
  cases p with
  | far =>
    obtain ⟨rfl, h3, rfl⟩ := h1
    rw [psum_far]
    exact far_sum h3 h2 hq
  | aff x1 y1 =>
    cases q with
    | far =>
      obtain ⟨rfl, h3, rfl⟩ := h2
      rw [addX_comm, addY_comm, addZ_comm]
      exact far_sum h3 h1 hp
    | aff x2 y2 =>
      obtain ⟨h3, rfl, rfl⟩ := h1
      obtain ⟨h4, rfl, rfl⟩ := h2
      have e1 := addX_sc Z1 Z2 x1 y1 1 x2 y2 1
      have e2 := addY_sc Z1 Z2 x1 y1 1 x2 y2 1
      have e3 := addZ_sc Z1 Z2 x1 y1 1 x2 y2 1
      rw [g_mul_one, g_mul_one] at e1 e2 e3
      rw [e1, e2, e3]
      exact (aff_sum hp hq).scale (mul_ne (mul_ne h3 h3) (mul_ne h4 h4))

theorem psum_on {p q : Pt} (hp : p.on) (hq : q.on) : (psum p q).on := by
  cases p with
  | far => cases q <;> exact hq
  | aff x1 y1 =>
    cases q with
    | far => exact hp
    | aff x2 y2 =>
      show (asum x1 y1 x2 y2).on
      unfold asum
      split
      · rename_i hne
        have hd : x1 - x2 ≠ 0 := g_sub' _ _ hne
        have hd' : x2 - x1 ≠ 0 := g_sub' _ _ (Ne.symm hne)
        exact chord_on hp hq hd (g_slope' y1 x2 x1 y2 _ (mul_finv hd'))
      · rename_i hne
        have e : x1 = x2 := Classical.not_not.1 hne
        subst e
        split
        · trivial
        · have hyy : y1 + y1 ≠ 0 := dbl_ne (Onc.y_ne hp)
          exact third_on hp (g_tan cB x1 y1 _ (g_slope (3 * (x1 * x1) - 3) 0 (y1 + y1) 0 _ (mul_finv hyy)))
end Go.Proofs.Ytgdjmgcolipcnaa.Ecp
/-
  What is proved here: coordinates and points: what three coordinates say, that they say one point; laws of the sum. No program in sight.
  Conditions: those of each theorem.
-/
namespace Go.Proofs.Ytgdjmgcolipcnaa.Ecp
set_option linter.unusedVariables false

theorem Rep.unique {X Y Z : Fp} {p q : Pt} (h : Rep X Y Z p) (k : Rep X Y Z q) : p = q := by
  cases p with
  | far =>
    cases q with
    | far => rfl
    | aff x y => exact absurd h.2.2 k.1
  | aff x y =>
    cases q with
    | far => exact absurd k.2.2 h.1
    | aff x' y' =>
      obtain ⟨h1, h2, h3⟩ := h
      obtain ⟨k1, k2, k3⟩ := k
      rw [cancel h1 (h2.symm.trans k2), cancel h1 (h3.symm.trans k3)]

section
variable {n : Nat} [NeZero n]
theorem g_affx (z x f : Fin n) (h : z * f = 1) : x = z * (x * f) := by grind -lia
theorem g_affx' (z x f : Fin n) (h : z * f = 1) : z * x * f = x := by grind -lia
theorem g_negm (z y : Fin n) : 0 - z * y = z * (0 - y) := by grind -lia
end

/-- The point of three coordinates. -/
def affP (X Y Z : Fp) : Pt := if Z = 0 then .far else .aff (X * finv Z) (Y * finv Z)
/-- They are those of a point. -/
def affOk (X Y Z : Fp) : Prop := if Z = 0 then X = 0 ∧ Y ≠ 0 else Onc (X * finv Z) (Y * finv Z)
theorem rep_of_ok {X Y Z : Fp} (h : affOk X Y Z) : Rep X Y Z (affP X Y Z) ∧ (affP X Y Z).on := by
  unfold affOk at h
  unfold affP
  split
  · rename_i hz
    rw [if_pos hz] at h
    exact ⟨⟨h.1, h.2, hz⟩, trivial⟩
  · rename_i hz
    rw [if_neg hz] at h
    exact ⟨⟨hz, g_affx _ _ _ (mul_finv hz), g_affx _ _ _ (mul_finv hz)⟩, h⟩
theorem ok_of_rep {X Y Z : Fp} {p : Pt} (h : Rep X Y Z p) (hp : p.on) : affOk X Y Z ∧ affP X Y Z = p := by
  unfold affOk affP
  cases p with
  | far =>
    obtain ⟨h1, h2, h3⟩ := h
    rw [if_pos h3, if_pos h3]
    exact ⟨⟨h1, h2⟩, rfl⟩
  | aff x y =>
    obtain ⟨h1, rfl, rfl⟩ := h
    rw [if_neg h1, if_neg h1, g_affx' _ _ _ (mul_finv h1), g_affx' _ _ _ (mul_finv h1)]
    exact ⟨hp, rfl⟩
theorem Rep.neg {X Y Z : Fp} {p : Pt} (h : Rep X Y Z p) : Rep X (0 - Y) Z (pneg p) := by
  cases p with
  | far => exact ⟨h.1, fun e => h.2.1 (g_zero_sub _ e), h.2.2⟩
  | aff x y =>
    obtain ⟨h1, rfl, rfl⟩ := h
    exact ⟨h1, rfl, g_negm _ _⟩
theorem rep_aff {x y : Fp} : Rep x y 1 (.aff x y) := ⟨one_ne, (g_one_mul x).symm, (g_one_mul y).symm⟩
theorem rep_far : Rep 0 1 0 .far := ⟨rfl, one_ne, rfl⟩
/-- Some coordinates of a point. -/
theorem rep_some (p : Pt) : ∃ X Y Z, Rep X Y Z p := by
  cases p with
  | far => exact ⟨0, 1, 0, rep_far⟩
  | aff x y => exact ⟨x, y, 1, rep_aff⟩
theorem psum_comm {p q : Pt} (hp : p.on) (hq : q.on) : psum p q = psum q p := by
  obtain ⟨X, Y, Z, h⟩ := rep_some p
  obtain ⟨X', Y', Z', k⟩ := rep_some q
  have h1 := add_rep h k hp hq
  have h2 := add_rep k h hq hp
  rw [addX_comm, addY_comm, addZ_comm] at h2
  exact h1.unique h2
theorem psum_pneg (p : Pt) (hp : p.on) : psum p (pneg p) = .far := by
  cases p with
  | far => rfl
  | aff x y =>
    show asum x y x (0 - y) = .far
    unfold asum
    rw [if_neg (fun h => h rfl), if_pos]
    left
    intro e
    exact dbl_ne (Onc.y_ne hp) (g_three x y e)
/-- The sum is infinitely far only for opposites. -/
theorem psum_far_iff {p q : Pt} (hp : p.on) (hq : q.on) (h : psum p q = .far) : q = pneg p := by
  cases p with
  | far => rw [psum_far] at h; rw [h]; rfl
  | aff x y =>
    cases q with
    | far => rw [psum_far'] at h; cases h
    | aff x' y' =>
      have h : asum x y x' y' = .far := h
      unfold asum at h
      split at h
      · cases h
      · rename_i hx
        have e : x = x' := Classical.not_not.1 hx
        subst e
        split at h
        · rename_i hy
          have hne : y ≠ y' := hy.resolve_right (Onc.y_ne hp)
          have hs := (mul_eq_zero' (g_sq_eq _ y y' hp hq)).resolve_left (g_sub' _ _ hne)
          rw [g_add_zero' _ _ hs]
          rfl
        · cases h
end Go.Proofs.Ytgdjmgcolipcnaa.Ecp
