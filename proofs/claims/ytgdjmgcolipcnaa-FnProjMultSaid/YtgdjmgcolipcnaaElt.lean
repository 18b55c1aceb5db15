/-
  What is proved here: elements of the field in Montgomery form, in memory: what holds them, what is left of them behind a store. No program in sight.
  Conditions: those of each theorem.
-/
import Derived.Test.YtgdjmgcolipcnaaFldAlgAlgB
import Derived.Test.YtgdjmgcolipcnaaEngBEngCEngD
namespace Go.Proofs.Ytgdjmgcolipcnaa
open Go Go.RowKit Ecp
set_option linter.unusedSimpArgs false
set_option linter.unusedVariables false

/-! Integers in the field. -/
def pI : Int := 115792089210356248762697446949407573530086143415290314195533631308867097853951
theorem pI_pN : pI = (pN : Int) := by decide +kernel
def zf (z : Int) : Fp := ⟨(z % pI).toNat, by
  have h1 : 0 ≤ z % pI := Int.emod_nonneg _ (by decide)
  have h2 : z % pI < pI := Int.emod_lt_of_pos _ (by decide)
  rw [pI_pN] at h2 h1 ⊢
  omega⟩
theorem zf_val (z : Int) : ((zf z).val : Int) = z % pI := by
  show (((z % pI).toNat : Nat) : Int) = _
  have h1 : 0 ≤ z % pI := Int.emod_nonneg _ (by decide)
  omega
theorem fp_ext {a b : Fp} (h : (a.val : Int) = (b.val : Int)) : a = b := Fin.ext (by omega)
theorem zf_add (a b : Int) : zf (a + b) = zf a + zf b := by
  apply fp_ext
  rw [zf_val, Fin.val_add, Int.natCast_emod, Int.natCast_add, zf_val, zf_val, ← pI_pN, Int.emod_add_emod, Int.add_emod_emod]
theorem zf_mul (a b : Int) : zf (a * b) = zf a * zf b := by
  apply fp_ext
  rw [zf_val, Fin.val_mul, Int.natCast_emod, Int.natCast_mul, zf_val, zf_val, ← pI_pN, Int.mul_emod]
theorem zf_p : zf pI = 0 := by decide +kernel
theorem zf_mulp (q : Int) : zf (q * pI) = 0 := by rw [zf_mul, zf_p]; exact g_mul_zero _
theorem zf_nat (x : Fp) : zf (x.val : Int) = x := by
  apply fp_ext
  rw [zf_val, pI_pN]
  exact Int.emod_eq_of_lt (Int.natCast_nonneg _) (Int.ofNat_lt.2 x.isLt)
theorem zf_eq {z : Int} {x : Fp} (h0 : 0 ≤ z) (h1 : z < pI) (h : zf z = x) : z = (x.val : Int) := by
  have := congrArg (fun y : Fp => (y.val : Int)) h
  simp only [zf_val] at this
  rw [← this, Int.emod_eq_of_lt h0 h1]
section
variable {n : Nat} [NeZero n]
theorem g_sub_of (a b c : Fin n) (h : a = b + c) : b = a - c := by grind -lia
theorem g_add_z (a b : Fin n) : a + 0 = a := by grind -lia
theorem g_m1 (o x y r : Fin n) (h : o * r = x * r * (y * r) + 0) : r * o = r * (x * y * r) := by grind -lia
theorem g_m2 (o x y r : Fin n) (h : o = x * r + y * r + 0) : o = (x + y) * r := by grind -lia
theorem g_m3 (o x y r : Fin n) (h : o = x * r - y * r + 0) : o = (x - y) * r := by grind -lia
theorem g_m4 (o x r : Fin n) (h : o * r = x * r + 0) : r * o = r * x := by grind -lia
theorem g_m5 (o x r : Fin n) (h : o * r = x * (r * r) + 0) : r * o = r * (x * r) := by grind -lia
theorem g_m6 (r : Fin n) : 1 * r = r := by grind -lia
theorem g_m7 (r : Fin n) : 0 * r = 0 := by grind -lia
theorem g_m8 (a b r : Fin n) (h : a * r = b * r) : r * a = r * b := by grind -lia
end
theorem zf_sub (a b : Int) : zf (a - b) = zf a - zf b := by
  apply g_sub_of
  rw [← zf_add]
  congr 1
  omega
/-- 2^256. -/
def cR : Fp := zf R256
theorem cR_ne : cR ≠ 0 := by decide +kernel
/-- Montgomery form. -/
def mont (x : Fp) : Int := (((x * cR : Fp).val : Nat) : Int)
theorem mont_bd (x : Fp) : 0 ≤ mont x ∧ mont x < pI := by
  have := (x * cR : Fp).isLt
  rw [pI_pN]
  exact ⟨Int.natCast_nonneg _, Int.ofNat_lt.2 this⟩
theorem pI_lt : pI < R256 := by decide +kernel
theorem mont_bd' (x : Fp) : 0 ≤ mont x ∧ mont x < R256 := ⟨(mont_bd x).1, Int.lt_trans (mont_bd x).2 pI_lt⟩
theorem zf_mont (x : Fp) : zf (mont x) = x * cR := zf_nat _
theorem mont_of {z : Int} {x : Fp} (h0 : 0 ≤ z) (h1 : z < pI) (h : zf z = x * cR) : z = mont x := zf_eq h0 h1 h
theorem mont_inj {x y : Fp} (h : mont x = mont y) : x = y := by
  have := congrArg zf h
  rw [zf_mont, zf_mont] at this
  exact cancel cR_ne (g_m8 _ _ _ this)
theorem zf_R : zf R256 = cR := rfl
theorem mont_mul {o q : Int} {x y : Fp} (h0 : 0 ≤ o) (h1 : o < pI) (h : o * R256 = mont x * mont y + q * pI) : o = mont (x * y) := by
  refine mont_of h0 h1 ?_
  have := congrArg zf h
  rw [zf_mul, zf_add, zf_mul, zf_mulp, zf_mont, zf_mont, zf_R] at this
  exact cancel cR_ne (g_m1 _ _ _ _ this)
theorem mont_add {o q : Int} {x y : Fp} (h0 : 0 ≤ o) (h1 : o < pI) (h : o = mont x + mont y + q * pI) : o = mont (x + y) := by
  refine mont_of h0 h1 ?_
  have := congrArg zf h
  rw [zf_add, zf_add, zf_mulp, zf_mont, zf_mont] at this
  exact g_m2 _ _ _ _ this
theorem mont_sub' {o q : Int} {x y : Fp} (h0 : 0 ≤ o) (h1 : o < pI) (h : o = mont x - mont y + q * pI) : o = mont (x - y) := by
  refine mont_of h0 h1 ?_
  have := congrArg zf h
  rw [zf_add, zf_sub, zf_mulp, zf_mont, zf_mont] at this
  exact g_m3 _ _ _ _ this
theorem mont_from {o q : Int} {x : Fp} (h0 : 0 ≤ o) (h1 : o < pI) (h : o * R256 = mont x + q * pI) : o = (x.val : Int) := by
  refine zf_eq h0 h1 ?_
  have := congrArg zf h
  rw [zf_mul, zf_add, zf_mulp, zf_mont, zf_R] at this
  exact cancel cR_ne (g_m4 _ _ _ this)
def RRp : Int := 134799733323198995502561713907086292154532538166959272814710328655875
theorem zf_RRp : zf RRp = cR * cR := by decide +kernel
theorem mont_to {o q A : Int} (h0 : 0 ≤ o) (h1 : o < pI) (h : o * R256 = A * RRp + q * pI) : o = mont (zf A) := by
  refine mont_of h0 h1 ?_
  have := congrArg zf h
  rw [zf_mul, zf_add, zf_mulp, zf_mul, zf_RRp, zf_R] at this
  exact cancel cR_ne (g_m5 _ _ _ this)
theorem mont_one : mont 1 = 26959946660873538059280334323183841250350249843923952699046031785985 := by decide +kernel
theorem mont_zero : mont 0 = 0 := by decide +kernel
theorem qds_zero : qds 4 (mont 0) = [0, 0, 0, 0] := by rw [mont_zero]; rfl

/-! Elements in memory. -/
/-- Four words hold an element. -/
def Elt (w : World) (b o : Nat) (x : Fp) : Prop := Held .u64 w b o (qds 4 (mont x))

theorem Held.far {k : IntKind} {w w' : World} {b o b' o' len : Nat} {xs : List Int} (h : Held k w b o xs) (hT : Turned b' o' len w w') (hb : b < w.heap.size) (hd : b ≠ b' ∨ o + xs.length ≤ o' ∨ o' + len ≤ o) : Held k w' b o xs := by
  intro i x hi
  by_cases e : b = b'
  · subst e
    have hlt := (List.getElem?_eq_some_iff.1 hi).1
    rw [hT.keep (o + i) (fun j hj => by rcases hd with hd | hd | hd <;> first | exact absurd rfl hd | omega)]
    exact h i x hi
  · rw [hT.away.cell hb e]
    exact h i x hi
theorem Elt.far {w w' : World} {b o b' o' len : Nat} {x : Fp} (h : Elt w b o x) (hT : Turned b' o' len w w') (hb : b < w.heap.size) (hd : b ≠ b' ∨ o + 4 ≤ o' ∨ o' + len ≤ o) : Elt w' b o x :=
  Held.far h hT hb (by rw [qds_length]; exact hd)
theorem Free.far {w w' : World} {b o len b' o' len' : Nat} (h : Free w b o len) (hT : Turned b' o' len' w w') (hb : b < w.heap.size) (hd : b ≠ b' ∨ o + len ≤ o' ∨ o' + len' ≤ o) : Free w' b o len := by
  intro i hi
  obtain ⟨⟨u, hu⟩, hf⟩ := h i hi
  by_cases e : b = b'
  · subst e
    refine ⟨⟨u, ?_⟩, by rw [hT.frz]; exact hf⟩
    rw [hT.keep (o + i) (fun j hj => by rcases hd with hd | hd | hd <;> first | exact absurd rfl hd | omega)]
    exact hu
  · exact ⟨⟨u, by rw [hT.away.cell hb e]; exact hu⟩, by rw [hT.away.frozen hb e]; exact hf⟩
/-- What was free stays free where an element is laid. -/
theorem Free.turned {w w' : World} {b o len b' o' : Nat} {x : Fp} (h : Free w b o len) (hT : Turned b' o' 4 w w') (hE : Elt w' b' o' x) (hb : b < w.heap.size) : Free w' b o len := by
  intro i hi
  obtain ⟨⟨u, hu⟩, hf⟩ := h i hi
  by_cases e : b = b'
  · subst e
    refine ⟨?_, by rw [hT.frz]; exact hf⟩
    by_cases hin : o' ≤ o + i ∧ o + i < o' + 4
    · have hl : o + i - o' < (qds 4 (mont x)).length := by rw [qds_length]; omega
      have := hE (o + i - o') _ (List.getElem?_eq_getElem hl)
      rw [show o' + (o + i - o') = o + i by omega] at this
      exact ⟨_, this⟩
    · rw [hT.keep (o + i) (fun j hj => by omega)]
      exact ⟨u, hu⟩
  · exact ⟨⟨u, by rw [hT.away.cell hb e]; exact hu⟩, by rw [hT.away.frozen hb e]; exact hf⟩
theorem Free.sub {w : World} {b o len o' len' : Nat} (h : Free w b o len) (h1 : o ≤ o') (h2 : o' + len' ≤ o + len) : Free w b o' len' := by
  intro i hi
  have := h (o' - o + i) (by omega)
  rwa [show o + (o' - o + i) = o' + i by omega] at this
theorem Turned.size {b o len : Nat} {w w' : World} (h : Turned b o len w w') : w.heap.size ≤ w'.heap.size := h.away.2.2.2.1
theorem Turned.refl (b o len : Nat) (w : World) : Turned b o len w w := ⟨Away.refl b w, fun _ _ => rfl, fun _ => rfl⟩
theorem Turned.widen {b o len o' len' : Nat} {w w' : World} (h : Turned b o len w w') (h1 : o' ≤ o) (h2 : o + len ≤ o' + len') : Turned b o' len' w w' :=
  ⟨h.away, fun i hi => h.keep i (fun j hj => by have := hi (o - o' + j) (by omega); omega), h.frz⟩
theorem Turned.trans {b o len : Nat} {u v w : World} (h : Turned b o len u v) (k : Turned b o len v w) : Turned b o len u w :=
  ⟨h.away.trans k.away, fun i hi => (k.keep i hi).trans (h.keep i hi), fun i => (k.frz i).trans (h.frz i)⟩
/-- A store to a block that is new is none to what was there. -/
theorem Turned.new {b o len b' o' len' : Nat} {u v w : World} (h : Turned b o len u v) (k : Turned b' o' len' v w) (hn : u.heap.size ≤ b') (hb : b < u.heap.size) : Turned b o len u w := by
  have hbv : b < v.heap.size := Nat.lt_of_lt_of_le hb h.size
  have hne : b ≠ b' := by omega
  refine ⟨⟨k.away.1.trans h.away.1, k.away.2.1.trans h.away.2.1, k.away.2.2.1.trans h.away.2.2.1, Nat.le_trans h.size k.size, fun i hi hbi => ?_⟩, fun i hi => ?_, fun i => ?_⟩
  · rw [k.away.2.2.2.2 i (Nat.lt_of_lt_of_le hi h.size) (by omega)]
    exact h.away.2.2.2.2 i hi hbi
  · rw [k.away.cell hbv hne]; exact h.keep i hi
  · rw [k.away.frozen hbv hne]; exact h.frz i
theorem Turned.ext {b o len : Nat} {u v : World} (h : Turned b o len u v) (hb : b < u.heap.size) (g : Gr) : Turned b o len u (ext v g) := by
  have hbv : b < v.heap.size := Nat.lt_of_lt_of_le hb h.size
  exact ⟨h.away.ext g, fun i hi => by rw [cell?_ext _ _ _ _ hbv]; exact h.keep i hi, fun i => by rw [frozen?_ext _ _ _ _ hbv]; exact h.frz i⟩
theorem Turned.drewN {b o len : Nat} {u v : World} (h : Turned b o len u v) (n : Nat) : Turned b o len u (v.drewN n) := ⟨h.away, h.keep, h.frz⟩
theorem Held.ext {k : IntKind} {w : World} {b o : Nat} {xs : List Int} (h : Held k w b o xs) (hb : b < w.heap.size) (g : Gr) : Held k (ext w g) b o xs := fun i x hi => by rw [cell?_ext _ _ _ _ hb]; exact h i x hi
theorem Elt.ext {w : World} {b o : Nat} {x : Fp} (h : Elt w b o x) (hb : b < w.heap.size) (g : Gr) : Elt (ext w g) b o x := Held.ext h hb g
theorem Free.ext {w : World} {b o len : Nat} (h : Free w b o len) (hb : b < w.heap.size) (g : Gr) : Free (ext w g) b o len := fun i hi => by
  rw [cell?_ext _ _ _ _ hb, frozen?_ext _ _ _ _ hb]; exact h i hi
theorem Elt.drewN {w : World} {b o : Nat} {x : Fp} (h : Elt w b o x) (n : Nat) : Elt (w.drewN n) b o x := h
theorem Free.drewN {w : World} {b o len : Nat} (h : Free w b o len) (n : Nat) : Free (w.drewN n) b o len := h
end Go.Proofs.Ytgdjmgcolipcnaa
