/-
  What is proved here: polynomials in the coordinates of points are reckoned with as lists, and some are checked to be 0: what the sum's associativity leans on. No program in sight.
  Conditions: those of each theorem.
-/
import Derived.Test.YtgdjmgcolipcnaaMulTabMlt
namespace Go.Proofs.Ytgdjmgcolipcnaa.Ecp
set_option linter.unusedVariables false
set_option linter.unusedSimpArgs false

/-! Reckoning. -/
structure Rg (A : Type) where
  zero : A
  add : A → A → A
  mul : A → A → A
  sm : Nat → A → A
  isz : A → Bool
structure Rg.Ok {A : Type} (o : Rg A) (ev : A → Fp) : Prop where
  zero : ev o.zero = 0
  add : ∀ a b, ev (o.add a b) = ev a + ev b
  mul : ∀ a b, ev (o.mul a b) = ev a * ev b
  sm : ∀ k a, ev (o.sm k a) = ofN k * ev a
  isz : ∀ a, o.isz a = true → ev a = 0
def rN : Rg Nat := ⟨0, fun a b => (a + b) % pN, fun a b => (a * b) % pN, fun a b => (a * b) % pN, fun a => Nat.beq (a % pN) 0⟩
theorem rN_ok : rN.Ok ofN where
  zero := ofN_0
  add a b := by show ofN ((a + b) % pN) = _; rw [ofN_mod, ofN_add]
  mul a b := by show ofN ((a * b) % pN) = _; rw [ofN_mod, ofN_mul]
  sm a b := by show ofN ((a * b) % pN) = _; rw [ofN_mod, ofN_mul]
  isz a h := by
    have h1 : a % pN = 0 := Nat.eq_of_beq_eq_true h
    apply Fin.ext
    rw [ofN_val, h1, val_zero']
section
variable {A : Type} (o : Rg A)
def ladd : List A → List A → List A
  | [], m => m
  | a :: l, [] => a :: l
  | a :: l, b :: m => o.add a b :: ladd l m
def lsc (a : A) : List A → List A
  | [] => []
  | b :: m => o.mul a b :: lsc a m
def lmul : List A → List A → List A
  | [], _ => []
  | a :: l, m => match o.isz a with
    | true => o.zero :: lmul l m
    | false => match l with
      | [] => lsc o a m
      | c :: k => ladd o (lsc o a m) (o.zero :: lmul (c :: k) m)
def lmul' (l : List A) : List A → List A
  | [] => []
  | b :: m => lmul o l (b :: m)
def lsm (k : Nat) : List A → List A
  | [] => []
  | b :: m => o.sm k b :: lsm k m
def lisz : List A → Bool
  | [] => true
  | b :: m => o.isz b && lisz m
def lmf : List A → List A
  | [] => []
  | a :: l => ladd o (lsm o nB (a :: l)) (o.zero :: ladd o (lsm o (pN - 3) (a :: l)) (o.zero :: o.zero :: a :: l))
def lev (ev : A → Fp) (x : Fp) : List A → Fp
  | [] => 0
  | b :: m => ev b + x * lev ev x m
def rL : Rg (List A) := ⟨[], ladd o, lmul' o, lsm o, lisz o⟩
end
theorem ofN_nB : ofN nB = cB := by decide +kernel
theorem ofN_m3 : ofN (pN - 3) = 0 - 3 := by decide +kernel
section
variable {n : Nat} [NeZero n]
theorem g_l0 (a : Fin n) : 0 + a = a := by grind -lia
theorem g_l0' (a : Fin n) : a + 0 = a := by grind -lia
theorem g_l1 (a b x L M : Fin n) : a + b + x * (L + M) = a + x * L + (b + x * M) := by grind -lia
theorem g_l2 (c b x M : Fin n) : c * b + x * (c * M) = c * (b + x * M) := by grind -lia
theorem g_l3 (a x L M : Fin n) : a * M + (0 + x * (L * M)) = (a + x * L) * M := by grind -lia
theorem g_l3' (a x M : Fin n) : a * M = (a + x * 0) * M := by grind -lia
theorem g_l4 (a x L M : Fin n) (h : a = 0) : 0 + x * (L * M) = (a + x * L) * M := by grind -lia
theorem g_l6 (x : Fin n) : 0 + x * 0 = 0 := by grind -lia
theorem g_l7 (b x L : Fin n) : b * L + (0 + x * ((0 - 3) * L + (0 + x * (0 + x * L)))) = (x * x * x - 3 * x + b) * L := by grind -lia
theorem g_e1 (a b c d y f : Fin n) (h : f = y * y) : a * c + f * (b * d) + (a * d + b * c) * y = (a + b * y) * (c + d * y) := by grind -lia
theorem g_e2 (a b c d y : Fin n) : a + c + (b + d) * y = (a + b * y) + (c + d * y) := by grind -lia
theorem g_e3 (k a b y : Fin n) : k * a + k * b * y = k * (a + b * y) := by grind -lia
theorem g_up (a x y : Fin n) : a + x * 0 + 0 * y = a := by grind -lia
theorem g_x (x y : Fin n) : 0 + x * (1 + x * 0) + 0 * y = x := by grind -lia
theorem g_y (x y : Fin n) : 0 + (1 + x * 0) * y = y := by grind -lia
end
section
variable {A : Type} {o : Rg A} {ev : A → Fp}
theorem lev_add (h : o.Ok ev) (x : Fp) : ∀ l m, lev ev x (ladd o l m) = lev ev x l + lev ev x m
  | [], m => (g_l0 _).symm
  | a :: l, [] => (g_l0' _).symm
  | a :: l, b :: m => by
    show ev (o.add a b) + x * lev ev x (ladd o l m) = _
    rw [h.add, lev_add h x l m]
    exact g_l1 _ _ _ _ _
theorem lev_sc (h : o.Ok ev) (x : Fp) (a : A) : ∀ m, lev ev x (lsc o a m) = ev a * lev ev x m
  | [] => (g_mul_zero _).symm
  | b :: m => by
    show ev (o.mul a b) + x * lev ev x (lsc o a m) = _
    rw [h.mul, lev_sc h x a m]
    exact g_l2 _ _ _ _
theorem lev_mul (h : o.Ok ev) (x : Fp) : ∀ l m, lev ev x (lmul o l m) = lev ev x l * lev ev x m
  | [], m => (g_zero_mul _).symm
  | a :: l, m => by
    unfold lmul
    split
    · rename_i hz
      show ev o.zero + x * lev ev x (lmul o l m) = (ev a + x * lev ev x l) * _
      rw [h.zero, lev_mul h x l m]
      exact g_l4 _ _ _ _ (h.isz _ hz)
    · split
      · rw [lev_sc h]
        exact g_l3' _ _ _
      · rename_i c k
        rw [lev_add h, lev_sc h]
        show _ + (ev o.zero + x * lev ev x (lmul o (c :: k) m)) = (ev a + x * lev ev x (c :: k)) * _
        rw [h.zero, lev_mul h x (c :: k) m]
        exact g_l3 _ _ _ _
theorem lev_mul' (h : o.Ok ev) (x : Fp) : ∀ l m, lev ev x (lmul' o l m) = lev ev x l * lev ev x m
  | l, [] => (g_mul_zero _).symm
  | l, b :: m => lev_mul h x l (b :: m)
theorem lev_sm (h : o.Ok ev) (x : Fp) (k : Nat) : ∀ m, lev ev x (lsm o k m) = ofN k * lev ev x m
  | [] => (g_mul_zero _).symm
  | b :: m => by
    show ev (o.sm k b) + x * lev ev x (lsm o k m) = _
    rw [h.sm, lev_sm h x k m]
    exact g_l2 _ _ _ _
theorem lev_isz (h : o.Ok ev) (x : Fp) : ∀ m, lisz o m = true → lev ev x m = 0
  | [], _ => rfl
  | b :: m, hz => by
    have hz' : (o.isz b && lisz o m) = true := hz
    rw [Bool.and_eq_true] at hz'
    show ev b + x * lev ev x m = 0
    rw [h.isz b hz'.1, lev_isz h x m hz'.2]
    exact g_l6 x
theorem lev_mf (h : o.Ok ev) (x : Fp) : ∀ l, lev ev x (lmf o l) = (x * x * x - 3 * x + cB) * lev ev x l
  | [] => (g_mul_zero _).symm
  | a :: l => by
    unfold lmf
    rw [lev_add h, lev_sm h, ofN_nB]
    show _ + (ev o.zero + x * lev ev x (ladd o _ _)) = _
    rw [lev_add h, lev_sm h, ofN_m3]
    show _ + (_ + x * (_ + (ev o.zero + x * (ev o.zero + x * lev ev x (a :: l))))) = _
    rw [h.zero]
    exact g_l7 _ _ _
theorem rL_ok (h : o.Ok ev) (x : Fp) : (rL o).Ok (lev ev x) := ⟨rfl, lev_add h x, lev_mul' h x, lev_sm h x, lev_isz h x⟩
end
def rE {A : Type} (o : Rg A) (mf : A → A) : Rg (A × A) :=
  ⟨(o.zero, o.zero), fun p q => (o.add p.1 q.1, o.add p.2 q.2), fun p q => (o.add (o.mul p.1 q.1) (mf (o.mul p.2 q.2)), o.add (o.mul p.1 q.2) (o.mul p.2 q.1)),
    fun k p => (o.sm k p.1, o.sm k p.2), fun p => o.isz p.1 && o.isz p.2⟩
def eev {A : Type} (ev : A → Fp) (y : Fp) (p : A × A) : Fp := ev p.1 + ev p.2 * y
theorem rE_ok {A : Type} {o : Rg A} {ev : A → Fp} (h : o.Ok ev) {mf : A → A} {y f : Fp} (hm : ∀ a, ev (mf a) = f * ev a) (hf : f = y * y) : (rE o mf).Ok (eev ev y) where
  zero := by show ev o.zero + ev o.zero * y = 0; rw [h.zero, g_zero_mul]; exact g_l0 0
  add p q := by show ev (o.add _ _) + ev (o.add _ _) * y = _; rw [h.add, h.add]; exact g_e2 _ _ _ _ _
  mul p q := by
    show ev (o.add _ _) + ev (o.add _ _) * y = _
    rw [h.add, h.add, h.mul, hm, h.mul, h.mul, h.mul]
    exact g_e1 _ _ _ _ _ _ hf
  sm k p := by show ev (o.sm _ _) + ev (o.sm _ _) * y = _; rw [h.sm, h.sm]; exact g_e3 _ _ _ _
  isz p hz := by
    have hz' : (o.isz p.1 && o.isz p.2) = true := hz
    rw [Bool.and_eq_true] at hz'
    show ev p.1 + ev p.2 * y = 0
    rw [h.isz _ hz'.1, h.isz _ hz'.2, g_zero_mul]; exact g_l0 0
structure Lv (A : Type) where
  o : Rg A
  one : A
structure Lv.Ok {A : Type} (L : Lv A) (ev : A → Fp) : Prop where
  o : L.o.Ok ev
  one : ev L.one = 1
def emb {A : Type} (a : A) : List A × List A := ([a], [])
def Lv.up {A : Type} (L : Lv A) : Lv (List A × List A) := ⟨rE (rL L.o) (lmf L.o), emb L.one⟩
def Lv.x {A : Type} (L : Lv A) : List A × List A := ([L.o.zero, L.one], [])
def Lv.y {A : Type} (L : Lv A) : List A × List A := ([], [L.one])
def uev {A : Type} (ev : A → Fp) (x y : Fp) : List A × List A → Fp := eev (lev ev x) y
section
variable {A : Type} {L : Lv A} {ev : A → Fp} {x y : Fp}
theorem emb_ev (a : A) : uev ev x y (emb a) = ev a := g_up _ _ _
theorem x_ev (h : L.Ok ev) : uev ev x y L.x = x := by
  show ev L.o.zero + x * (ev L.one + x * 0) + 0 * y = x
  rw [h.o.zero, h.one]; exact g_x _ _
theorem y_ev (h : L.Ok ev) : uev ev x y L.y = y := by
  show 0 + (ev L.one + x * 0) * y = y
  rw [h.one]; exact g_y _ _
theorem Lv.Ok.up (h : L.Ok ev) (ho : Onc x y) : L.up.Ok (uev ev x y) where
  o := rE_ok (rL_ok h.o x) (lev_mf h.o x) ho.symm
  one := by show uev ev x y (emb L.one) = _; rw [emb_ev, h.one]
end
def L0 : Lv Nat := ⟨rN, 1⟩
theorem L0_ok : L0.Ok ofN := ⟨rN_ok, ofN_1⟩

/-! The formulas. -/
structure P3 (A : Type) where
  x : A
  y : A
  z : A
section
variable {A : Type} (L : Lv A)
def Lv.sub (u v : A) : A := L.o.add u (L.o.sm (pN - 1) v)
/-- The sum, by the products of the coordinates. -/
def Lv.core (xx yy zz xy xz yz : A) : P3 A :=
  let a := L.o.sm 3 (L.sub xz (L.o.sm nB zz))
  let b := L.o.sm 3 (L.sub (L.sub (L.o.sm nB xz) (L.o.sm 3 zz)) xx)
  let c := L.o.sm 3 (L.sub xx zz)
  let p := L.o.add yy a
  let m := L.sub yy a
  ⟨L.sub (L.o.mul xy p) (L.o.mul yz b), L.o.add (L.o.mul p m) (L.o.mul c b), L.o.add (L.o.mul yz m) (L.o.mul xy c)⟩
def Lv.padd (p q : P3 A) : P3 A := L.core (L.o.mul p.x q.x) (L.o.mul p.y q.y) (L.o.mul p.z q.z) (L.o.add (L.o.mul p.x q.y) (L.o.mul q.x p.y)) (L.o.add (L.o.mul p.x q.z) (L.o.mul q.x p.z)) (L.o.add (L.o.mul p.y q.z) (L.o.mul q.y p.z))
/-- Both of them with 1 ahead. -/
def Lv.padd1 (p q : A × A) : P3 A := L.core (L.o.mul p.1 q.1) (L.o.mul p.2 q.2) L.one (L.o.add (L.o.mul p.1 q.2) (L.o.mul q.1 p.2)) (L.o.add p.1 q.1) (L.o.add p.2 q.2)
def Lv.neg (p : A × A) : A × A := (p.1, L.o.sm (pN - 1) p.2)
end
section
variable {n : Nat} [NeZero n]
theorem g_sb (u v : Fin n) : u + (0 - 1) * v = u - v := by grind -lia
theorem g_ng (v : Fin n) : (0 - 1) * v = 0 - v := by grind -lia
theorem g_m33 (u v : Fin n) : 3 * (u - v) = 3 * u - 3 * v := by grind -lia
end
structure Is {A : Type} (ev : A → Fp) (p : P3 A) (X Y Z : Fp) : Prop where
  x : ev p.x = X
  y : ev p.y = Y
  z : ev p.z = Z
section
variable {A : Type} {L : Lv A} {ev : A → Fp}
theorem sub_ev (h : L.Ok ev) (u v : A) : ev (L.sub u v) = ev u - ev v := by unfold Lv.sub; rw [h.o.add, h.o.sm, ofN_m1]; exact g_sb _ _
theorem core_ev (h : L.Ok ev) (X1 Y1 Z1 X2 Y2 Z2 : Fp) (xx yy zz xy xz yz : A) (h1 : ev xx = X1 * X2) (h2 : ev yy = Y1 * Y2) (h3 : ev zz = Z1 * Z2) (h4 : ev xy = X1 * Y2 + X2 * Y1) (h5 : ev xz = X1 * Z2 + X2 * Z1) (h6 : ev yz = Y1 * Z2 + Y2 * Z1) :
    Is ev (L.core xx yy zz xy xz yz) (addX X1 Y1 Z1 X2 Y2 Z2) (addY X1 Y1 Z1 X2 Y2 Z2) (addZ X1 Y1 Z1 X2 Y2 Z2) := by
  constructor
  · simp only [Lv.core, sub_ev h, h.o.add, h.o.mul, h.o.sm, ofN_nB, ofN_3, h1, h2, h3, h4, h5, h6]; rfl
  · simp only [Lv.core, sub_ev h, h.o.add, h.o.mul, h.o.sm, ofN_nB, ofN_3, h1, h2, h3, h4, h5, h6]
    unfold addY
    rw [g_m33 (X1 * X2) (Z1 * Z2)]
  · simp only [Lv.core, sub_ev h, h.o.add, h.o.mul, h.o.sm, ofN_nB, ofN_3, h1, h2, h3, h4, h5, h6]
    unfold addZ
    rw [g_m33 (X1 * X2) (Z1 * Z2)]
theorem padd_ev (h : L.Ok ev) {p q : P3 A} {X1 Y1 Z1 X2 Y2 Z2 : Fp} (hp : Is ev p X1 Y1 Z1) (hq : Is ev q X2 Y2 Z2) : Is ev (L.padd p q) (addX X1 Y1 Z1 X2 Y2 Z2) (addY X1 Y1 Z1 X2 Y2 Z2) (addZ X1 Y1 Z1 X2 Y2 Z2) := by
  refine core_ev h _ _ _ _ _ _ _ _ _ _ _ _ ?_ ?_ ?_ ?_ ?_ ?_ <;> simp only [h.o.add, h.o.mul, hp.x, hp.y, hp.z, hq.x, hq.y, hq.z]
theorem padd1_ev (h : L.Ok ev) {p q : A × A} {x1 y1 x2 y2 : Fp} (h1 : ev p.1 = x1) (h2 : ev p.2 = y1) (h3 : ev q.1 = x2) (h4 : ev q.2 = y2) : Is ev (L.padd1 p q) (addX x1 y1 1 x2 y2 1) (addY x1 y1 1 x2 y2 1) (addZ x1 y1 1 x2 y2 1) := by
  refine core_ev h _ _ _ _ _ _ _ _ _ _ _ _ ?_ ?_ ?_ ?_ ?_ ?_ <;> simp only [h.o.add, h.o.mul, h.one, h1, h2, h3, h4, g_mul_one]
theorem neg_ev (h : L.Ok ev) (v : A) : ev (L.o.sm (pN - 1) v) = 0 - ev v := by rw [h.o.sm, ofN_m1]; exact g_ng _
end
abbrev T1 := List Nat × List Nat
abbrev T2 := List T1 × List T1
abbrev T3 := List T2 × List T2
def L1 : Lv T1 := L0.up
def L2 : Lv T2 := L1.up
def L3 : Lv T3 := L2.up
def a2 : T2 × T2 := (emb L0.x, emb L0.y)
def b2 : T2 × T2 := (L1.x, L1.y)
def a3 : T3 × T3 := (emb (emb L0.x), emb (emb L0.y))
def b3 : T3 × T3 := (emb L1.x, emb L1.y)
def c3 : T3 × T3 := (L2.x, L2.y)
def Lv.det {A : Type} (L : Lv A) (u v w : P3 A) : A :=
  L.o.add (L.o.mul u.x (L.sub (L.o.mul v.y w.z) (L.o.mul v.z w.y))) (L.o.add (L.o.mul u.y (L.sub (L.o.mul v.z w.x) (L.o.mul v.x w.z))) (L.o.mul u.z (L.sub (L.o.mul v.x w.y) (L.o.mul v.y w.x))))
def ab : P3 T2 := L2.padd1 a2 b2
def amb : P3 T2 := L2.padd1 a2 (L2.neg b2)
def can : P3 T2 := L2.padd ab ⟨b2.1, L2.o.sm (pN - 1) b2.2, L2.one⟩
def aa : P3 T2 := L2.padd1 a2 a2
def two : P3 T2 := L2.padd ab amb
/-- (a + b) - b and a. -/
theorem can_x : L2.o.isz (L2.sub can.x (L2.o.mul a2.1 can.z)) = true := by decide +kernel
theorem can_y : L2.o.isz (L2.sub can.y (L2.o.mul a2.2 can.z)) = true := by decide +kernel
/-- (a + b) + (a - b) and a + a. -/
theorem two_x : L2.o.isz (L2.sub (L2.o.mul two.x aa.z) (L2.o.mul aa.x two.z)) = true := by decide +kernel
theorem two_y : L2.o.isz (L2.sub (L2.o.mul two.y aa.z) (L2.o.mul aa.y two.z)) = true := by decide +kernel
/-- a - b, b - c, c - a. -/
theorem det_0 : L3.o.isz (L3.det (L3.padd1 a3 (L3.neg b3)) (L3.padd1 b3 (L3.neg c3)) (L3.padd1 c3 (L3.neg a3))) = true := by decide +kernel
end Go.Proofs.Ytgdjmgcolipcnaa.Ecp
/-
  What is proved here: the sum of three points of the curve does not depend on which two are added first; so many times a point and so many times are together as many times. No program in sight.
  Conditions: those of each theorem.
-/
namespace Go.Proofs.Ytgdjmgcolipcnaa.Ecp
set_option linter.unusedVariables false
set_option linter.unusedSimpArgs false

section
variable {n : Nat} [NeZero n]
theorem g_k1 (x Z Z' X : Fin n) (h : X * Z' = Z' * x * Z) : Z' * X = Z' * (x * Z) := by grind -lia
theorem g_k2 (Z x x' : Fin n) (h : Z * x = x' * Z) : Z * x = Z * x' := by grind -lia
theorem g_k3 (Y Y' Z : Fin n) (h : Y * 0 = Y' * Z) : Y' * Z = 0 := by grind -lia
theorem g_k4 (y Z : Fin n) (h : Z = 0) : y * Z = 0 := by grind -lia
end
theorem Rep.eq_aff {X Y Z x y : Fp} {r : Pt} (h : Rep X Y Z r) (h1 : X = x * Z) (h2 : Y = y * Z) : r = .aff x y := by
  cases r with
  | far => exact absurd (h2.trans (g_k4 y Z h.2.2)) h.2.1
  | aff x' y' =>
    obtain ⟨hz, hx, hy⟩ := h
    rw [cancel hz (g_k2 _ _ _ (hx.symm.trans h1)), cancel hz (g_k2 _ _ _ (hy.symm.trans h2))]
theorem Rep.cross {X Y Z X' Y' Z' : Fp} {r s : Pt} (h : Rep X Y Z r) (k : Rep X' Y' Z' s) (h1 : X * Z' = X' * Z) (h2 : Y * Z' = Y' * Z) : r = s := by
  cases s with
  | far =>
    obtain ⟨k1, k2, k3⟩ := k
    rw [k3] at h2
    have hz := (mul_eq_zero' (g_k3 _ _ _ h2)).resolve_left k2
    cases r with
    | far => rfl
    | aff x y => exact absurd hz h.1
  | aff x y =>
    obtain ⟨k1, rfl, rfl⟩ := k
    exact h.eq_aff (cancel k1 (g_k1 _ _ _ _ h1)) (cancel k1 (g_k1 _ _ _ _ h2))

/-! What was reckoned, as numbers. -/
section
variable {x1 y1 x2 y2 : Fp}
def ev2 (x1 y1 x2 y2 : Fp) : T2 → Fp := uev (uev ofN x1 y1) x2 y2
theorem a2x : ev2 x1 y1 x2 y2 a2.1 = x1 := (emb_ev _).trans (x_ev L0_ok)
theorem a2y : ev2 x1 y1 x2 y2 a2.2 = y1 := (emb_ev _).trans (y_ev L0_ok)
theorem b2x (h1 : Onc x1 y1) : ev2 x1 y1 x2 y2 b2.1 = x2 := x_ev (L0_ok.up h1)
theorem b2y (h1 : Onc x1 y1) : ev2 x1 y1 x2 y2 b2.2 = y2 := y_ev (L0_ok.up h1)
theorem ok2 (h1 : Onc x1 y1) (h2 : Onc x2 y2) : L2.Ok (ev2 x1 y1 x2 y2) := (L0_ok.up h1).up h2
theorem b2n (h1 : Onc x1 y1) (h2 : Onc x2 y2) : ev2 x1 y1 x2 y2 (L2.o.sm (pN - 1) b2.2) = 0 - y2 := by rw [neg_ev (ok2 h1 h2), b2y h1]
theorem ab_is (h1 : Onc x1 y1) (h2 : Onc x2 y2) : Is (ev2 x1 y1 x2 y2) ab (addX x1 y1 1 x2 y2 1) (addY x1 y1 1 x2 y2 1) (addZ x1 y1 1 x2 y2 1) := padd1_ev (ok2 h1 h2) (a2x) (a2y) (b2x h1) (b2y h1)
theorem amb_is (h1 : Onc x1 y1) (h2 : Onc x2 y2) : Is (ev2 x1 y1 x2 y2) amb (addX x1 y1 1 x2 (0 - y2) 1) (addY x1 y1 1 x2 (0 - y2) 1) (addZ x1 y1 1 x2 (0 - y2) 1) := padd1_ev (ok2 h1 h2) (a2x) (a2y) (b2x h1) (b2n h1 h2)
theorem aa_is (h1 : Onc x1 y1) (h2 : Onc x2 y2) : Is (ev2 x1 y1 x2 y2) aa (addX x1 y1 1 x1 y1 1) (addY x1 y1 1 x1 y1 1) (addZ x1 y1 1 x1 y1 1) := padd1_ev (ok2 h1 h2) (a2x) (a2y) (a2x) (a2y)
/-- (P + Q) - Q = P. -/
theorem can_aff (h1 : Onc x1 y1) (h2 : Onc x2 y2) : psum (psum (.aff x1 y1) (.aff x2 y2)) (.aff x2 (0 - y2)) = .aff x1 y1 := by
  have k := ok2 h1 h2
  have hc := padd_ev k (ab_is h1 h2) (q := ⟨b2.1, L2.o.sm (pN - 1) b2.2, L2.one⟩) ⟨b2x h1, b2n h1 h2, k.one⟩
  have e1 := k.o.isz _ can_x
  have e2 := k.o.isz _ can_y
  rw [sub_ev k, k.o.mul] at e1 e2
  rw [show ev2 x1 y1 x2 y2 can.x = _ from hc.x, show ev2 x1 y1 x2 y2 can.z = _ from hc.z, a2x] at e1
  rw [show ev2 x1 y1 x2 y2 can.y = _ from hc.y, show ev2 x1 y1 x2 y2 can.z = _ from hc.z, a2y] at e2
  exact (add_rep (aff_sum h1 h2) rep_aff (psum_on (p := .aff x1 y1) (q := .aff x2 y2) h1 h2) h2.neg).eq_aff (g_sub _ _ e1) (g_sub _ _ e2)
/-- (P + Q) + (P - Q) = P + P. -/
theorem two_aff (h1 : Onc x1 y1) (h2 : Onc x2 y2) : psum (psum (.aff x1 y1) (.aff x2 y2)) (psum (.aff x1 y1) (.aff x2 (0 - y2))) = psum (.aff x1 y1) (.aff x1 y1) := by
  have k := ok2 h1 h2
  have hc := padd_ev k (ab_is h1 h2) (amb_is h1 h2)
  have ha := aa_is h1 h2
  have e1 := k.o.isz _ two_x
  have e2 := k.o.isz _ two_y
  rw [sub_ev k, k.o.mul, k.o.mul] at e1 e2
  rw [show ev2 x1 y1 x2 y2 two.x = _ from hc.x, show ev2 x1 y1 x2 y2 two.z = _ from hc.z, ha.x, ha.z] at e1
  rw [show ev2 x1 y1 x2 y2 two.y = _ from hc.y, show ev2 x1 y1 x2 y2 two.z = _ from hc.z, ha.y, ha.z] at e2
  exact (add_rep (aff_sum h1 h2) (aff_sum h1 h2.neg) (psum_on (p := .aff x1 y1) (q := .aff x2 y2) h1 h2) (psum_on (p := .aff x1 y1) (q := .aff x2 (0 - y2)) h1 h2.neg)).cross (aff_sum h1 h1) (g_sub _ _ e1) (g_sub _ _ e2)
end
def det3 (X1 Y1 Z1 X2 Y2 Z2 X3 Y3 Z3 : Fp) : Fp := X1 * (Y2 * Z3 - Z2 * Y3) + (Y1 * (Z2 * X3 - X2 * Z3) + Z1 * (X2 * Y3 - Y2 * X3))
theorem det_ev {A : Type} {L : Lv A} {ev : A → Fp} (h : L.Ok ev) {u v w : P3 A} {X1 Y1 Z1 X2 Y2 Z2 X3 Y3 Z3 : Fp} (hu : Is ev u X1 Y1 Z1) (hv : Is ev v X2 Y2 Z2) (hw : Is ev w X3 Y3 Z3) : ev (L.det u v w) = det3 X1 Y1 Z1 X2 Y2 Z2 X3 Y3 Z3 := by
  simp only [Lv.det, sub_ev h, h.o.add, h.o.mul, hu.x, hu.y, hu.z, hv.x, hv.y, hv.z, hw.x, hw.y, hw.z]
  rfl
section
variable {x1 y1 x2 y2 x3 y3 : Fp}
theorem det_aff (h1 : Onc x1 y1) (h2 : Onc x2 y2) (h3 : Onc x3 y3) : det3 (addX x1 y1 1 x2 (0 - y2) 1) (addY x1 y1 1 x2 (0 - y2) 1) (addZ x1 y1 1 x2 (0 - y2) 1) (addX x2 y2 1 x3 (0 - y3) 1) (addY x2 y2 1 x3 (0 - y3) 1) (addZ x2 y2 1 x3 (0 - y3) 1) (addX x3 y3 1 x1 (0 - y1) 1) (addY x3 y3 1 x1 (0 - y1) 1) (addZ x3 y3 1 x1 (0 - y1) 1) = 0 := by
  have k : L3.Ok (uev (ev2 x1 y1 x2 y2) x3 y3) := (ok2 h1 h2).up h3
  have ax : uev (ev2 x1 y1 x2 y2) x3 y3 a3.1 = x1 := (emb_ev _).trans (a2x)
  have ay : uev (ev2 x1 y1 x2 y2) x3 y3 a3.2 = y1 := (emb_ev _).trans (a2y)
  have bx : uev (ev2 x1 y1 x2 y2) x3 y3 b3.1 = x2 := (emb_ev _).trans (b2x h1)
  have by' : uev (ev2 x1 y1 x2 y2) x3 y3 b3.2 = y2 := (emb_ev _).trans (b2y h1)
  have cx : uev (ev2 x1 y1 x2 y2) x3 y3 c3.1 = x3 := x_ev (ok2 h1 h2)
  have cy : uev (ev2 x1 y1 x2 y2) x3 y3 c3.2 = y3 := y_ev (ok2 h1 h2)
  have n1 : uev (ev2 x1 y1 x2 y2) x3 y3 (L3.neg a3).2 = 0 - y1 := by show uev _ _ _ (L3.o.sm (pN - 1) a3.2) = _; rw [neg_ev k, ay]
  have n2 : uev (ev2 x1 y1 x2 y2) x3 y3 (L3.neg b3).2 = 0 - y2 := by show uev _ _ _ (L3.o.sm (pN - 1) b3.2) = _; rw [neg_ev k, by']
  have n3 : uev (ev2 x1 y1 x2 y2) x3 y3 (L3.neg c3).2 = 0 - y3 := by show uev _ _ _ (L3.o.sm (pN - 1) c3.2) = _; rw [neg_ev k, cy]
  have h := k.o.isz _ det_0
  rw [det_ev k (padd1_ev k (q := L3.neg b3) ax ay bx n2) (padd1_ev k (q := L3.neg c3) bx by' cx n3) (padd1_ev k (q := L3.neg a3) cx cy ax n1)] at h
  exact h
end
section
variable {n : Nat} [NeZero n]
theorem g_d1 (Zu Zv Zw xu yu xv yv xw yw : Fin n) : Zu * xu * (Zv * yv * Zw - Zv * (Zw * yw)) + (Zu * yu * (Zv * (Zw * xw) - Zv * xv * Zw) + Zu * (Zv * xv * (Zw * yw) - Zv * yv * (Zw * xw))) = Zu * Zv * Zw * ((yu - yv) * (xw - xu) - (yw - yu) * (xu - xv)) := by grind -lia
theorem g_d2 (l xu yu xv yv xw yw : Fin n) (hl : l * (xu - xv) = yu - yv) (h : (yu - yv) * (xw - xu) - (yw - yu) * (xu - xv) = 0) : (xu - xv) * (yw - yu) = (xu - xv) * (l * (xw - xu)) := by grind -lia
theorem g_d3 (l xu yu xv xw : Fin n) (h1 : l * (yu + yu) = l * l * (xu - xv) + xu * xu + xu * xv + xv * xv - 3) (h2 : l * (yu + yu) = l * l * (xu - xw) + xu * xu + xu * xw + xw * xw - 3) : (xw - xv) * (xw - (l * l - xu - xv)) = 0 := by grind -lia
theorem g_d7 (l xu yu xw yw : Fin n) (hw : yw - yu = l * (xw - xu)) : l * (xu - xw) = yu - yw := by grind -lia
theorem g_d4 (l xu yu xv yv xw yw : Fin n) (hl : l * (xu - xv) = yu - yv) (hw : yw - yu = l * (xw - xu)) (h : xw = xv) : yw = yv := by grind -lia
theorem g_d5 (l xu yu xv xw yw : Fin n) (hw : yw - yu = l * (xw - xu)) (h : xw = xu) : yw = yu := by grind -lia
theorem g_d6 (l xu yu xt yw : Fin n) (hw : yw - yu = l * (xt - xu)) : l * (xu - xt) - yu = 0 - yw := by grind -lia
end
/-- A third point of the curve on the chord. -/
theorem chord_third {xu yu xv yv xw yw : Fp} (hu : Onc xu yu) (hv : Onc xv yv) (hw : Onc xw yw) (hx : xu ≠ xv) (hd : (yu - yv) * (xw - xu) - (yw - yu) * (xu - xv) = 0) :
    Pt.aff xw yw = .aff xu yu ∨ Pt.aff xw yw = .aff xv yv ∨ psum (.aff xu yu) (.aff xv yv) = .aff xw (0 - yw) := by
  have hd0 : xu - xv ≠ 0 := g_sub' _ _ hx
  have hd' : xv - xu ≠ 0 := g_sub' _ _ (Ne.symm hx)
  have hl : (yv - yu) * finv (xv - xu) * (xu - xv) = yu - yv := g_slope' yu xv xu yv _ (mul_finv hd')
  have hs : psum (.aff xu yu) (.aff xv yv) = .aff (thirdX ((yv - yu) * finv (xv - xu)) xu xv) (thirdY ((yv - yu) * finv (xv - xu)) xu yu xv) := by
    show asum xu yu xv yv = _
    unfold asum
    rw [if_pos hx]
  generalize (yv - yu) * finv (xv - xu) = l at hl hs
  have hw' : yw - yu = l * (xw - xu) := cancel hd0 (g_d2 l xu yu xv yv xw yw hl hd)
  by_cases e : xw = xu
  · exact .inl (by rw [g_d5 l xu yu xv xw yw hw' e, e])
  · have k1 := cancel hd0 (g_chord cB xu yu xv yv l hu hv hl)
    have k2 := cancel (g_sub' _ _ (Ne.symm e)) (g_chord cB xu yu xw yw l hu hw (g_d7 l xu yu xw yw hw'))
    have h := g_d3 l xu yu xv xw k1 k2
    rcases mul_eq_zero' h with h | h
    · have e := g_sub _ _ h
      exact .inr (.inl (by rw [g_d4 l xu yu xv yv xw yw hl hw' e, e]))
    · have e : xw = thirdX l xu xv := g_sub _ _ h
      refine .inr (.inr ?_)
      rw [hs, ← e]
      congr 1
      unfold thirdY
      rw [← e]
      exact g_d6 l xu yu xw yw hw'

/-! The group. -/
theorem pneg_pneg (p : Pt) : pneg (pneg p) = p := by
  cases p with
  | far => rfl
  | aff x y => show Pt.aff x (0 - (0 - y)) = _; rw [g_neg_neg]
theorem psum_can {p q : Pt} (hp : p.on) (hq : q.on) : psum (psum p q) (pneg q) = p := by
  cases p with
  | far => rw [psum_far]; exact psum_pneg q hq
  | aff x y =>
    cases q with
    | far => rw [psum_far']; exact psum_far' _
    | aff u v => exact can_aff hp hq
theorem psum_can' {p q : Pt} (hp : p.on) (hq : q.on) : psum (psum p (pneg q)) q = p := by
  have h := psum_can hp (pneg_on hq)
  rwa [pneg_pneg] at h
theorem psum_two {p q : Pt} (hp : p.on) (hq : q.on) : psum (psum p q) (psum p (pneg q)) = psum p p := by
  cases p with
  | far => rw [psum_far, psum_far]; exact psum_pneg q hq
  | aff x y =>
    cases q with
    | far => show psum (psum _ _) (psum _ .far) = _; rw [psum_far']
    | aff u v => exact two_aff hp hq
section
variable {n : Nat} [NeZero n]
theorem g_ngx (b x y u v : Fin n) : ((x * v + u * y) * (y * v + 3 * (x * 1 + u * 1 - b * (1 * 1))) - (y * 1 + v * 1) * (3 * (b * (x * 1 + u * 1) - 3 * (1 * 1) - x * u))) = 0 - ((x * (0 - v) + u * (0 - y)) * ((0 - y) * (0 - v) + 3 * (x * 1 + u * 1 - b * (1 * 1))) - ((0 - y) * 1 + (0 - v) * 1) * (3 * (b * (x * 1 + u * 1) - 3 * (1 * 1) - x * u))) := by grind -lia
theorem g_ngy (b x y u v : Fin n) : ((y * v + 3 * (x * 1 + u * 1 - b * (1 * 1))) * (y * v - 3 * (x * 1 + u * 1 - b * (1 * 1))) + (3 * (x * u) - 3 * (1 * 1)) * (3 * (b * (x * 1 + u * 1) - 3 * (1 * 1) - x * u))) = (((0 - y) * (0 - v) + 3 * (x * 1 + u * 1 - b * (1 * 1))) * ((0 - y) * (0 - v) - 3 * (x * 1 + u * 1 - b * (1 * 1))) + (3 * (x * u) - 3 * (1 * 1)) * (3 * (b * (x * 1 + u * 1) - 3 * (1 * 1) - x * u))) := by grind -lia
theorem g_ngz (b x y u v : Fin n) : ((y * 1 + v * 1) * (y * v - 3 * (x * 1 + u * 1 - b * (1 * 1))) + (x * v + u * y) * (3 * (x * u) - 3 * (1 * 1))) = 0 - (((0 - y) * 1 + (0 - v) * 1) * ((0 - y) * (0 - v) - 3 * (x * 1 + u * 1 - b * (1 * 1))) + (x * (0 - v) + u * (0 - y)) * (3 * (x * u) - 3 * (1 * 1))) := by grind -lia
theorem g_ng1 (X X' Z Z' : Fin n) (h : X = 0 - X') (k : Z = 0 - Z') : X * Z' = X' * Z := by grind -lia
theorem g_ng2 (Y Y' Z Z' : Fin n) (h : Y = Y') (k : Z = 0 - Z') : (0 - Y) * Z' = Y' * Z := by grind -lia
end
theorem ng_x (x y u v : Fp) : addX x y 1 u v 1 * addZ x (0 - y) 1 u (0 - v) 1 = addX x (0 - y) 1 u (0 - v) 1 * addZ x y 1 u v 1 := g_ng1 _ _ _ _ (g_ngx cB x y u v) (g_ngz cB x y u v)
theorem ng_y (x y u v : Fp) : (0 - addY x y 1 u v 1) * addZ x (0 - y) 1 u (0 - v) 1 = addY x (0 - y) 1 u (0 - v) 1 * addZ x y 1 u v 1 := g_ng2 _ _ _ _ (g_ngy cB x y u v) (g_ngz cB x y u v)
theorem pneg_psum {p q : Pt} (hp : p.on) (hq : q.on) : pneg (psum p q) = psum (pneg p) (pneg q) := by
  -- (-p - q) + (p + q) is far
  have h1 := psum_on hp hq
  have h2 := psum_on (pneg_on hp) (pneg_on hq)
  cases p with
  | far => rw [psum_far]; exact (psum_far _).symm
  | aff x y =>
    cases q with
    | far => rw [psum_far']; exact (psum_far' _).symm
    | aff u v =>
      have a := add_rep (p := .aff x (0 - y)) (q := .aff u (0 - v)) rep_aff rep_aff (pneg_on hp) (pneg_on hq)
      have b := (add_rep (p := .aff x y) (q := .aff u v) rep_aff rep_aff hp hq).neg
      exact b.cross a (ng_x x y u v) (ng_y x y u v)
theorem psum_far_eq {p q : Pt} (hp : p.on) (hq : q.on) (h : psum p (pneg q) = .far) : p = q := by
  have e := psum_far_iff hp (pneg_on hq) h
  rw [← pneg_pneg p, ← e, pneg_pneg]
theorem psum_cancel {p q r : Pt} (hp : p.on) (hq : q.on) (hr : r.on) (h : psum p q = psum p r) : q = r := by
  rw [psum_comm hp hq, psum_comm hp hr] at h
  rw [← psum_can hq hp, h, psum_can hr hp]
/-- 2 v less v is v, the other way round. -/
theorem psum_back {v : Pt} (hv : v.on) : psum v (pneg (psum v v)) = pneg v := by
  rw [pneg_psum hv hv, psum_comm hv (psum_on (pneg_on hv) (pneg_on hv))]
  exact psum_can' (pneg_on hv) hv
theorem onc_same {x y y' : Fp} (h : Onc x y) (h' : Onc x y') : y = y' ∨ y' = 0 - y := by
  rcases mul_eq_zero' (g_sq_eq _ _ _ h h') with e | e
  · exact .inl (g_sub _ _ e)
  · exact .inr (g_add_zero' _ _ e)
theorem det_zero {Xu Yu Zu Xv Yv Zv Xw Yw Zw xu yu xv yv xw yw : Fp} (hu : Rep Xu Yu Zu (.aff xu yu)) (hv : Rep Xv Yv Zv (.aff xv yv)) (hw : Rep Xw Yw Zw (.aff xw yw)) (h : det3 Xu Yu Zu Xv Yv Zv Xw Yw Zw = 0) : (yu - yv) * (xw - xu) - (yw - yu) * (xu - xv) = 0 := by
  obtain ⟨u0, rfl, rfl⟩ := hu
  obtain ⟨v0, rfl, rfl⟩ := hv
  obtain ⟨w0, rfl, rfl⟩ := hw
  unfold det3 at h
  rw [g_d1] at h
  exact (mul_eq_zero' h).resolve_left (mul_ne (mul_ne u0 v0) w0)
/-- (A - B) + (B - C) = A - C. -/
theorem psum_tri {A B C : Pt} (hA : A.on) (hB : B.on) (hC : C.on) : psum (psum A (pneg B)) (psum B (pneg C)) = psum A (pneg C) := by
  have nA := pneg_on hA
  have nB := pneg_on hB
  have nC := pneg_on hC
  have hu := psum_on hA nB
  have hv := psum_on hB nC
  have hw := psum_on hC nA
  have eW : pneg (psum C (pneg A)) = psum A (pneg C) := by rw [pneg_psum hC nA, pneg_pneg, psum_comm nC hA]
  -- what the points are by the differences
  have eA : psum (psum A (pneg B)) B = A := psum_can' hA hB
  have eC : psum (psum C (pneg A)) A = C := psum_can' hC hA
  have eB : psum (psum B (pneg C)) C = B := psum_can' hB hC
  have eU : pneg (psum A (pneg B)) = psum B (pneg A) := by rw [pneg_psum hA nB, pneg_pneg, psum_comm nA hB]
  have eV : pneg (psum B (pneg C)) = psum C (pneg B) := by rw [pneg_psum hB nC, pneg_pneg, psum_comm nB hC]
  have eB' : psum (psum B (pneg A)) A = B := psum_can' hB hA
  have eC' : psum (psum C (pneg B)) B = C := psum_can' hC hB
  have eA' : psum (psum A (pneg C)) C = A := psum_can' hA hC
  by_cases fu : psum A (pneg B) = .far
  · rw [fu, psum_far, psum_far_eq hA hB fu]
  by_cases fv : psum B (pneg C) = .far
  · rw [fv, psum_far', psum_far_eq hB hC fv]
  by_cases fw : psum C (pneg A) = .far
  · have e := psum_far_eq hC hA fw
    rw [e, ← eU]
    rw [psum_pneg _ hu, psum_pneg _ hA]
  -- the points themselves are not far, or it is plain
  have main : psum A (pneg B) = psum B (pneg C) ∨ psum C (pneg A) = psum A (pneg B) ∨ psum C (pneg A) = psum B (pneg C) ∨ psum (psum A (pneg B)) (psum B (pneg C)) = psum A (pneg C) := by
    by_cases fA : A = .far
    · refine .inr (.inr (.inr ?_))
      subst fA
      rw [psum_far, psum_far, psum_comm nB hv, psum_comm hB nC]
      exact psum_can nC hB
    by_cases fB : B = .far
    · subst fB
      refine .inr (.inr (.inr ?_))
      show psum (psum A .far) (psum .far (pneg C)) = _
      rw [psum_far', psum_far]
    by_cases fC : C = .far
    · subst fC
      refine .inr (.inr (.inr ?_))
      show psum (psum A (pneg B)) (psum B .far) = psum A .far
      rw [psum_far', psum_far', eA]
    rw [← eW]
    revert hu hv hw fu fv fw
    cases A with
    | far => exact absurd rfl fA
    | aff x1 y1 =>
      cases B with
      | far => exact absurd rfl fB
      | aff x2 y2 =>
        cases C with
        | far => exact absurd rfl fC
        | aff x3 y3 =>
          intro hu hv hw fu fv fw
          have ru := aff_sum hA (Onc.neg hB)
          have rv := aff_sum hB (Onc.neg hC)
          have rw' := aff_sum hC (Onc.neg hA)
          have hd := det_aff hA hB hC
          have hV : psum (.aff x3 y3) (pneg (.aff x2 y2)) = pneg (psum (.aff x2 y2) (pneg (.aff x3 y3))) := eV.symm
          have hcan : ∀ r : Pt, psum (.aff x1 y1) (pneg (.aff x2 y2)) = psum (.aff x3 y3) (pneg (.aff x2 y2)) → psum (.aff x3 y3) (pneg (.aff x1 y1)) = .far := fun _ e => by
            have e2 : Pt.aff x1 y1 = .aff x3 y3 := by
              rw [psum_comm hA nB, psum_comm hC nB] at e
              exact psum_cancel nB hA hC e
            rw [e2]
            exact psum_pneg _ hC
          rw [hV] at hcan
          clear eA eC eB eU eV eB' eC' eA' eW hV
          change Rep _ _ _ (psum (.aff x1 y1) (pneg (.aff x2 y2))) at ru
          change Rep _ _ _ (psum (.aff x2 y2) (pneg (.aff x3 y3))) at rv
          change Rep _ _ _ (psum (.aff x3 y3) (pneg (.aff x1 y1))) at rw'
          generalize psum (.aff x1 y1) (pneg (.aff x2 y2)) = u at *
          generalize psum (.aff x2 y2) (pneg (.aff x3 y3)) = v at *
          generalize psum (.aff x3 y3) (pneg (.aff x1 y1)) = w at *
          cases u with
          | far => exact absurd rfl fu
          | aff xu yu =>
            cases v with
            | far => exact absurd rfl fv
            | aff xv yv =>
              cases w with
              | far => exact absurd rfl fw
              | aff xw yw =>
                have hz := det_zero ru rv rw' hd
                by_cases hx : xu = xv
                · subst hx
                  rcases onc_same hu hv with e | e
                  · exact .inl (by rw [e])
                  · subst e
                    exact absurd (hcan .far (by show Pt.aff xu yu = .aff xu (0 - (0 - yu)); rw [g_neg_neg])) (fun e => by cases e)
                · rcases chord_third hu hv hw hx hz with e | e | e
                  · exact .inr (.inl e)
                  · exact .inr (.inr (.inl e))
                  · exact .inr (.inr (.inr e))
  rcases main with e | e | e | e
  · -- u = v: A = u + B, C = B - u
    have e1 : psum C (pneg B) = pneg (psum A (pneg B)) := by rw [e, eV]
    have hC' : C = psum B (pneg (psum A (pneg B))) := by rw [← e1, psum_comm hB (psum_on hC nB)]; exact eC'.symm
    have h2 := psum_two hu hB
    rw [eA] at h2
    have e3 : pneg C = psum (psum A (pneg B)) (pneg B) := by
      have := congrArg pneg hC'
      rw [pneg_psum hB (pneg_on hu), pneg_pneg, psum_comm nB hu] at this
      exact this
    rw [← e3] at h2
    rw [← e, h2]
  · -- w = u: C = u + A, B = A - u
    have hB' : B = psum A (pneg (psum A (pneg B))) := by rw [eU, psum_comm hA (psum_on hB nA)]; exact eB'.symm
    have h2 := psum_two hu hA
    rw [← e, eC] at h2
    rw [e] at h2
    have e3 : pneg B = psum (psum A (pneg B)) (pneg A) := by
      have := congrArg pneg hB'
      rw [pneg_psum hA (pneg_on hu), pneg_pneg, psum_comm nA hu] at this
      exact this
    rw [← e3, ← eV] at h2
    have e4 := congrArg pneg h2
    rw [eV, ← eV, pneg_pneg] at e4
    rw [e4, psum_back hu, ← e, eW]
  · -- w = v: A = C - v, B = v + C
    have hA' : A = psum C (pneg (psum B (pneg C))) := by rw [← e, eW, psum_comm hC (psum_on hA nC)]; exact eA'.symm
    have h2 := psum_two hv hC
    rw [eB] at h2
    have e3 : pneg A = psum (psum B (pneg C)) (pneg C) := by
      have := congrArg pneg hA'
      rw [pneg_psum hC (pneg_on hv), pneg_pneg, psum_comm nC hv] at this
      exact this
    rw [← e3, ← eU] at h2
    have e4 := congrArg pneg h2
    rw [pneg_pneg] at e4
    rw [e4, psum_comm (pneg_on (psum_on hv hv)) hv, psum_back hv, ← e, eW]
  · exact e
/-- The sum associates. -/
theorem psum_assoc {p q r : Pt} (hp : p.on) (hq : q.on) (hr : r.on) : psum (psum p q) r = psum p (psum q r) := by
  have h := psum_tri (psum_on hp hq) hq (pneg_on hr)
  rw [pneg_pneg, psum_can hp hq] at h
  exact h.symm
end Go.Proofs.Ytgdjmgcolipcnaa.Ecp
/-
  What is proved here: so many times a point and so many times are together as many times; the curve has as many points as its order says: each point is a multiple of the base point, and the order times it is infinitely far. No program in sight.
  Conditions: those of each theorem.
-/
namespace Go.Proofs.Ytgdjmgcolipcnaa
open Ecp
set_option linter.unusedVariables false
set_option linter.unusedSimpArgs false

theorem pm_far (n : Nat) : pm n .far = .far := by
  induction n using Nat.strongRecOn with
  | _ n ih =>
    by_cases h : n = 0
    · subst h; exact pm_zero _
    · rw [pm, dif_neg h, ih (n / 2) (by omega)]
      split <;> rfl
theorem pm_succ {p : Pt} (hp : p.on) (n : Nat) : pm (n + 1) p = psum (pm n p) p := by
  induction n using Nat.strongRecOn with
  | _ n ih =>
    rcases Nat.mod_two_eq_zero_or_one n with h | h
    · obtain ⟨k, rfl⟩ : ∃ k, n = 2 * k := ⟨n / 2, by omega⟩
      exact pm_odd' k p
    · obtain ⟨k, rfl⟩ : ∃ k, n = 2 * k + 1 := ⟨n / 2, by omega⟩
      have ha := pm_on k hp
      have e : 2 * k + 1 + 1 = 2 * (k + 1) := by omega
      rw [e, pm_even, ih k (by omega), pm_odd]
      rw [psum_assoc ha hp (psum_on ha hp), psum_comm hp (psum_on ha hp), psum_assoc ha hp hp, ← psum_assoc ha ha (psum_on hp hp), ← psum_assoc (psum_on ha ha) hp hp]
theorem pm_add {p : Pt} (hp : p.on) (m n : Nat) : pm (m + n) p = psum (pm m p) (pm n p) := by
  induction n with
  | zero => rw [Nat.add_zero, pm_zero, psum_far']
  | succ n ih =>
    rw [← Nat.add_assoc, pm_succ hp, ih, pm_succ hp, psum_assoc (pm_on m hp) (pm_on n hp) hp]
theorem pm_mul {p : Pt} (hp : p.on) (m n : Nat) : pm (m * n) p = pm m (pm n p) := by
  induction m with
  | zero => rw [Nat.zero_mul, pm_zero, pm_zero]
  | succ m ih => rw [Nat.succ_mul, pm_add hp, ih, pm_succ (pm_on n hp)]
theorem pm_neg {p : Pt} (hp : p.on) (n : Nat) : pm n (pneg p) = pneg (pm n p) := by
  induction n with
  | zero => rw [pm_zero, pm_zero]; rfl
  | succ n ih => rw [pm_succ (pneg_on hp), ih, pm_succ hp, pneg_psum (pm_on n hp) hp]
/-- Less so many times. -/
theorem pm_sub {p : Pt} (hp : p.on) {m n : Nat} (h : n ≤ m) : psum (pm m p) (pneg (pm n p)) = pm (m - n) p := by
  have e : m = (m - n) + n := by omega
  have h1 := pm_add hp (m - n) n
  rw [← e] at h1
  rw [h1, psum_can (pm_on _ hp) (pm_on _ hp)]
theorem pm_eq_far {p : Pt} (hp : p.on) {i j : Nat} (h : i ≤ j) (e : pm i p = pm j p) : pm (j - i) p = .far := by
  have h1 := pm_add hp i (j - i)
  rw [show i + (j - i) = j by omega, ← e] at h1
  have h2 : psum (pm i p) .far = psum (pm i p) (pm (j - i) p) := by rw [psum_far', ← h1]
  exact (psum_cancel (pm_on i hp) (q := .far) trivial (pm_on _ hp) h2).symm
/-- No point but the far one is its own opposite. -/
theorem no_two {t : Pt} (ht : t.on) (h : psum t t = .far) : t = .far := by
  have e := psum_far_iff ht ht h
  cases t with
  | far => rfl
  | aff x y =>
    have e2 : Pt.aff x y = .aff x (0 - y) := e
    injection e2 with _ e3
    exact absurd (g_three x y e3) (dbl_ne (Onc.y_ne ht))

/-! A point whose multiple by a prime is far. -/
section
variable {q : Nat} {g : Pt}
theorem ord_ne (hq : IsPrime q) (hg : g.on) (h0 : g ≠ .far) (hf : pm q g = .far) {k : Nat} (h1 : 0 < k) (h2 : k < q) : pm k g ≠ .far := by
  intro e
  have hd : ¬ q ∣ k := fun hd => by
    have := Nat.le_of_dvd h1 hd
    omega
  have hfm := fermat' hq hd
  have h2q := hq.1
  generalize hm : k ^ (q - 2) = m at *
  have hk : k ^ (q - 1) = k * m := by
    rw [show q - 1 = (q - 2) + 1 by omega, Nat.pow_succ, hm, Nat.mul_comm]
  rw [hk, Nat.mod_eq_of_lt (show 1 < q by omega)] at hfm
  have hdiv := Nat.div_add_mod (k * m) q
  rw [hfm] at hdiv
  have e1 : pm (k * m) g = .far := by rw [Nat.mul_comm, pm_mul hg, e, pm_far]
  have e2 : pm (q * (k * m / q) + 1) g = g := by
    rw [pm_add hg, Nat.mul_comm, pm_mul hg, hf, pm_far, pm_one, psum_far]
  rw [hdiv] at e2
  exact h0 (e2.symm.trans e1)
theorem ord_inj (hq : IsPrime q) (hg : g.on) (h0 : g ≠ .far) (hf : pm q g = .far) {i j : Nat} (hi : i < q) (hj : j < q) (e : pm i g = pm j g) : i = j := by
  rcases Nat.lt_trichotomy i j with h | h | h
  · exact absurd (pm_eq_far hg (Nat.le_of_lt h) e) (ord_ne hq hg h0 hf (by omega) (by omega))
  · exact h
  · exact absurd (pm_eq_far hg (Nat.le_of_lt h) e.symm) (ord_ne hq hg h0 hf (by omega) (by omega))
theorem ord_mod (hg : g.on) (hf : pm q g = .far) (k : Nat) : pm (k % q) g = pm k g := by
  have h := Nat.div_add_mod k q
  have h1 := pm_add hg (q * (k / q)) (k % q)
  rw [h, Nat.mul_comm, pm_mul hg, hf, pm_far, psum_far] at h1
  exact h1.symm
/-- The difference of two multiples is a multiple. -/
theorem ord_diff (hq : IsPrime q) (hg : g.on) (h0 : g ≠ .far) (hf : pm q g = .far) {x : Pt} (hx : x.on) {i j : Nat} (hi : i < q) (e : psum x (pm i g) = pm j g) : ∃ k, k < q ∧ x = pm k g := by
  refine ⟨(j + (q - i)) % q, Nat.mod_lt _ (by omega), ?_⟩
  rw [ord_mod hg hf, pm_add hg, ← e, psum_assoc hx (pm_on i hg) (pm_on _ hg), ← pm_add hg, show i + (q - i) = q by omega, hf, psum_far']
theorem ord_half (hq : IsPrime q) (hg : g.on) (h0 : g ≠ .far) (hf : pm q g = .far) (hodd : q % 2 = 1) {x : Pt} (hx : x.on) {k : Nat} (e : psum x x = pm k g) : ∃ j, j < q ∧ x = pm j g := by
  obtain ⟨m, hm⟩ : ∃ m, psum x x = psum (pm m g) (pm m g) := by
    rcases Nat.mod_two_eq_zero_or_one k with h | h
    · exact ⟨k / 2, by rw [e, ← pm_even]; congr 1; omega⟩
    · refine ⟨(k + q) / 2, ?_⟩
      rw [e, ← pm_even, show 2 * ((k + q) / 2) = k + q by omega, pm_add hg, hf, psum_far']
  have hy := pm_on m hg
  generalize hyy : pm m g = y at hm hy
  have hd : psum (psum x (pneg y)) (psum x (pneg y)) = .far := by
    have ny := pneg_on hy
    rw [psum_assoc hx ny (psum_on hx ny), psum_comm ny (psum_on hx ny), psum_assoc hx ny ny, ← psum_assoc hx hx (psum_on ny ny), hm, ← pneg_psum hy hy]
    exact psum_pneg _ (psum_on hy hy)
  have h := psum_far_eq hx hy (no_two (psum_on hx (pneg_on hy)) hd)
  refine ⟨m % q, Nat.mod_lt _ (by have := hq.1; omega), ?_⟩
  rw [ord_mod hg hf, hyy, h]
/-- Three sets of as many points. -/
theorem ord_three (hq : IsPrime q) (hg : g.on) (h0 : g ≠ .far) (hf : pm q g = .far) (hodd : q % 2 = 1) {x : Pt} (hx : x.on) (hn : ∀ k, k < q → x ≠ pm k g) {i j : Nat} (hi : i < 3 * q) (hj : j < 3 * q)
    (e : psum (pm (i / q) x) (pm (i % q) g) = psum (pm (j / q) x) (pm (j % q) g)) : i = j := by
  have hq0 : 0 < q := by have := hq.1; omega
  -- by the greater of the two
  have key : ∀ i j, i < 3 * q → j < 3 * q → j / q ≤ i / q → psum (pm (i / q) x) (pm (i % q) g) = psum (pm (j / q) x) (pm (j % q) g) → i = j := by
    intro i j hi hj hle e
    have hri := Nat.mod_lt i hq0
    have hrj := Nat.mod_lt j hq0
    have hi3 : i / q < 3 := Nat.div_lt_of_lt_mul (by rw [Nat.mul_comm]; exact hi)
    have h1 := pm_add hx (j / q) (i / q - j / q)
    rw [(fun (a b : Nat) (h : b ≤ a) => (by omega : b + (a - b) = a)) _ _ hle] at h1
    have hon := pm_on (i / q - j / q) hx
    rw [h1, psum_assoc (pm_on _ hx) hon (pm_on _ hg)] at e
    have e2 := psum_cancel (pm_on _ hx) (psum_on hon (pm_on _ hg)) (pm_on _ hg) e
    have hc : i / q - j / q = 0 ∨ i / q - j / q = 1 ∨ i / q - j / q = 2 := (fun (a b : Nat) (h : a < 3) => (by omega : a - b = 0 ∨ a - b = 1 ∨ a - b = 2)) _ _ hi3
    rcases hc with hc | hc | hc
    · rw [hc, pm_zero, psum_far] at e2
      have hr := ord_inj hq hg h0 hf hri hrj e2
      have hd : i / q = j / q := (fun (a b : Nat) (h1 : b ≤ a) (h2 : a - b = 0) => (by omega : a = b)) _ _ hle hc
      have a := Nat.div_add_mod i q
      have b := Nat.div_add_mod j q
      rw [hd, hr] at a
      omega
    · rw [hc, pm_one] at e2
      obtain ⟨k, hk, ek⟩ := ord_diff hq hg h0 hf hx hri e2
      exact absurd ek (hn k hk)
    · rw [hc] at e2
      obtain ⟨k, hk, ek⟩ := ord_diff hq hg h0 hf (pm_on 2 hx) hri e2
      have h2 : pm 2 x = psum x x := by
        have := pm_even 1 x
        rw [pm_one] at this
        exact this
      rw [h2] at ek
      obtain ⟨j', hj', ej⟩ := ord_half hq hg h0 hf hodd hx ek
      exact absurd ej (hn j' hj')
  rcases Nat.le_total (j / q) (i / q) with h | h
  · exact key i j hi hj h e
  · exact (key j i hj hi h e.symm).symm
end

/-! Counting. -/
theorem pigeon : ∀ (k m : Nat) (f : Nat → Nat), (∀ i, i < m → f i < k) → (∀ i j, i < m → j < m → f i = f j → i = j) → m ≤ k
  | 0, m, f, hb, _ => by
    rcases Nat.eq_zero_or_pos m with h | h
    · omega
    · exact absurd (hb 0 h) (by omega)
  | k + 1, m, f, hb, hi => by
    rcases Nat.eq_zero_or_pos m with h | h
    · omega
    · -- the last one's place is given to whoever has k
      have hl : m - 1 < m := by omega
      have := pigeon k (m - 1) (fun i => if f i = k then f (m - 1) else f i)
        (fun i h1 => by
          show (if f i = k then f (m - 1) else f i) < k
          split
          · rename_i e
            have a := hb (m - 1) hl
            have b : f (m - 1) ≠ k := fun e2 => by
              have := hi i (m - 1) (by omega) hl (e.trans e2.symm)
              omega
            omega
          · rename_i e
            have a := hb i (by omega)
            omega)
        (fun i j h1 h2 e => by
          have e' : (if f i = k then f (m - 1) else f i) = (if f j = k then f (m - 1) else f j) := e
          split at e'
          · rename_i a
            split at e'
            · rename_i b
              exact hi i j (by omega) (by omega) (a.trans b.symm)
            · have := hi (m - 1) j hl (by omega) e'
              omega
          · split at e'
            · have := hi i (m - 1) (by omega) hl e'
              omega
            · exact hi i j (by omega) (by omega) e')
      omega
/-- A number for each point of the curve. -/
def code : Pt → Nat
  | .far => 2 * pN
  | .aff x y => 2 * x.val + y.val % 2
theorem code_lt (p : Pt) : code p < 2 * pN + 1 := by
  cases p with
  | far => exact Nat.lt_succ_self _
  | aff x y =>
    show 2 * x.val + y.val % 2 < _
    have := x.isLt
    omega
theorem code_inj {p q : Pt} (hp : p.on) (hq : q.on) (h : code p = code q) : p = q := by
  have e1 : ∀ x y : Fp, code (.aff x y) ≠ code .far := fun x y e => by
    have e' : 2 * x.val + y.val % 2 = 2 * pN := e
    have := x.isLt
    omega
  cases p with
  | far =>
    cases q with
    | far => rfl
    | aff x y => exact absurd h.symm (e1 x y)
  | aff x y =>
    cases q with
    | far => exact absurd h (e1 x y)
    | aff u v =>
      have h' : 2 * x.val + y.val % 2 = 2 * u.val + v.val % 2 := h
      have hx : x = u := Fin.ext (by omega)
      subst hx
      rcases onc_same hp hq with e | e
      · rw [e]
      · have hy0 : y.val ≠ 0 := fun e0 => Onc.y_ne hp (Fin.ext (by rw [e0]; exact val_zero'.symm))
        have hv : v.val = pN - y.val := by
          rw [e]
          have h1 := y.isLt
          show (pN - y.val + (0 : Fp).val) % pN = _
          rw [val_zero', Nat.add_zero, Nat.mod_eq_of_lt (by omega)]
        have hod : pN % 2 = 1 := by decide +kernel
        have := y.isLt
        omega

/-! The base point. -/
def nN : Nat := 115792089210356248762697446949407573529996955224135760342422259061068512044369
def gX : Nat := 0x6b17d1f2e12c4247f8bce6e563a440f277037d812deb33a0f4a13945d898c296
def gY : Nat := 0x4fe342e2fe1a7f9b8ee7eb4a7c0f9e162bce33576b315ececbb6406837bf51f5
def gG : Pt := .aff (ofN gX) (ofN gY)
theorem gG_on : gG.on := by
  show ofN gY * ofN gY = ofN gX * ofN gX * ofN gX - 3 * ofN gX + cB
  decide +kernel
def pw3 : Nat → Nat → P3 Nat
  | 0, _ => ⟨0, 1, 0⟩
  | k + 1, e =>
    let h := pw3 k (e / 2)
    if e % 2 = 0 then L0.padd h h else L0.padd (L0.padd h h) ⟨gX, gY, 1⟩
def RepN (t : P3 Nat) (p : Pt) : Prop := Rep (ofN t.x) (ofN t.y) (ofN t.z) p
theorem RepN.add {s t : P3 Nat} {p q : Pt} (h : RepN s p) (k : RepN t q) (hp : p.on) (hq : q.on) : RepN (L0.padd s t) (psum p q) := by
  have hi := padd_ev L0_ok (p := s) (q := t) ⟨rfl, rfl, rfl⟩ ⟨rfl, rfl, rfl⟩
  unfold RepN
  rw [hi.x, hi.y, hi.z]
  exact add_rep h k hp hq
theorem pw3_rep : ∀ k e, e < 2 ^ k → RepN (pw3 k e) (pm e gG)
  | 0, e, he => by
    have : e = 0 := by simpa using he
    subst this
    rw [pm_zero]
    exact ⟨ofN_0, by show ofN 1 ≠ 0; rw [ofN_1]; exact one_ne, ofN_0⟩
  | k + 1, e, he => by
    have ih := pw3_rep k (e / 2) (by rw [Nat.pow_succ] at he; omega)
    have hon := pm_on (e / 2) gG_on
    have hg : RepN ⟨gX, gY, 1⟩ gG := by
      show Rep (ofN gX) (ofN gY) (ofN 1) (.aff (ofN gX) (ofN gY))
      rw [ofN_1]
      exact rep_aff
    simp only [pw3]
    split
    · rename_i h0
      have h := ih.add ih hon hon
      rw [← pm_even, show 2 * (e / 2) = e by omega] at h
      exact h
    · rename_i h0
      have h := (ih.add ih hon hon).add hg (psum_on hon hon) gG_on
      rw [← pm_odd, show 2 * (e / 2) + 1 = e by omega] at h
      exact h
theorem pw3_n : (pw3 256 nN).z % pN = 0 := by decide +kernel
theorem gG_ord : pm nN gG = .far := by
  have h := pw3_rep 256 nN (by decide)
  have hz : ofN (pw3 256 nN).z = 0 := by
    apply Fin.ext
    rw [ofN_val, pw3_n, val_zero']
  unfold RepN at h
  rw [hz] at h
  generalize pm nN gG = p at h
  cases p with
  | far => rfl
  | aff x y => exact absurd rfl h.1
theorem nN_prime : IsPrime nN := prime_115792089210356248762697446949407573529996955224135760342422259061068512044369
theorem nN_odd : nN % 2 = 1 := by decide +kernel
theorem count_bad : ¬ 3 * nN ≤ 2 * pN + 1 := by decide +kernel
/-- Each point is a multiple of the base point. -/
theorem all_mult {p : Pt} (hp : p.on) : ∃ k, k < nN ∧ p = pm k gG := by
  apply Classical.byContradiction
  intro hc
  have hn : ∀ k, k < nN → p ≠ pm k gG := fun k hk e => hc ⟨k, hk, e⟩
  have hg0 : gG ≠ .far := fun e => by unfold gG at e; cases e
  refine count_bad (pigeon (2 * pN + 1) (3 * nN) (fun i => code (psum (pm (i / nN) p) (pm (i % nN) gG))) (fun i _ => code_lt _) (fun i j hi hj e => ?_))
  exact ord_three nN_prime gG_on hg0 gG_ord nN_odd hp hn hi hj (code_inj (psum_on (pm_on _ hp) (pm_on _ gG_on)) (psum_on (pm_on _ hp) (pm_on _ gG_on)) e)
/-- The order times a point. -/
theorem pm_ord {p : Pt} (hp : p.on) : pm nN p = .far := by
  obtain ⟨k, _, rfl⟩ := all_mult hp
  rw [← pm_mul gG_on, Nat.mul_comm, pm_mul gG_on, gG_ord, pm_far]
theorem pm_mod {p : Pt} (hp : p.on) (k : Nat) : pm (k % nN) p = pm k p := ord_mod hp (pm_ord hp) k

/-! Windows of five bits, with the bit below each. -/
/-- The sum behind the window that begins at bit i of 2 s. -/
def bV (u : Nat) : Nat := (u + 1) / 2
theorem booth_pos {u : Nat} (h : u % 64 < 32) : bV u = 32 * bV (u / 32) + (u % 64 + 1) / 2 := by unfold bV; omega
theorem booth_neg {u : Nat} (h : ¬ u % 64 < 32) : bV u = 32 * bV (u / 32) - (32 - (u % 64 + 1) / 2) ∧ 32 - (u % 64 + 1) / 2 ≤ 32 * bV (u / 32) := by unfold bV; omega
theorem pm_booth_pos {p : Pt} (hp : p.on) {u : Nat} (h : u % 64 < 32) : psum (pm (32 * bV (u / 32)) p) (pm ((u % 64 + 1) / 2) p) = pm (bV u) p := by
  rw [← pm_add hp, ← booth_pos h]
theorem pm_booth_neg {p : Pt} (hp : p.on) {u : Nat} (h : ¬ u % 64 < 32) : psum (pm (32 * bV (u / 32)) p) (pneg (pm (32 - (u % 64 + 1) / 2) p)) = pm (bV u) p := by
  rw [pm_sub hp (booth_neg h).2, ← (booth_neg h).1]
theorem pm_32 (m : Nat) (p : Pt) : psum (psum (psum (psum (psum (pm m p) (pm m p)) (psum (pm m p) (pm m p))) (psum (psum (pm m p) (pm m p)) (psum (pm m p) (pm m p)))) (psum (psum (psum (pm m p) (pm m p)) (psum (pm m p) (pm m p))) (psum (psum (pm m p) (pm m p)) (psum (pm m p) (pm m p))))) (psum (psum (psum (psum (pm m p) (pm m p)) (psum (pm m p) (pm m p))) (psum (psum (pm m p) (pm m p)) (psum (pm m p) (pm m p)))) (psum (psum (psum (pm m p) (pm m p)) (psum (pm m p) (pm m p))) (psum (psum (pm m p) (pm m p)) (psum (pm m p) (pm m p))))) = pm (32 * m) p := by
  rw [← pm_even, ← pm_even, ← pm_even, ← pm_even, ← pm_even]
  congr 1
  omega
end Go.Proofs.Ytgdjmgcolipcnaa
