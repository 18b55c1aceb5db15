/-
  What is proved here: coordinates and points: what three coordinates say, that they say one point; laws of the sum. No program in sight.
  Conditions: those of each theorem.
-/
import Derived.Test.YtnjjelepcnofjaaAlg
namespace Go.Proofs.Ytnjjelepcnofjaa.Ecp
set_option linter.unusedVariables false

theorem Rep.unique {X Y Z : Fp} {p q : Pt} (h : Rep X Y Z p) (k : Rep X Y Z q) : p = q := by
  cases p with
  | far =>
    cases q with
    | far => rfl
    | aff x y => exact absurd h.2.2 k.1
  | aff x y =>
    cases q with
    | far => exact absurd k.2.2 h.1
    | aff x' y' =>
      obtain ⟨h1, h2, h3⟩ := h
      obtain ⟨k1, k2, k3⟩ := k
      rw [cancel h1 (h2.symm.trans k2), cancel h1 (h3.symm.trans k3)]

section
variable {n : Nat} [NeZero n]
theorem g_affx (z x f : Fin n) (h : z * f = 1) : x = z * (x * f) := by grind -lia
theorem g_affx' (z x f : Fin n) (h : z * f = 1) : z * x * f = x := by grind -lia
theorem g_negm (z y : Fin n) : 0 - z * y = z * (0 - y) := by grind -lia
end

/-- The point of three coordinates. -/
def affP (X Y Z : Fp) : Pt := if Z = 0 then .far else .aff (X * finv Z) (Y * finv Z)
/-- They are those of a point. -/
def affOk (X Y Z : Fp) : Prop := if Z = 0 then X = 0 ∧ Y ≠ 0 else Onc (X * finv Z) (Y * finv Z)
theorem rep_of_ok {X Y Z : Fp} (h : affOk X Y Z) : Rep X Y Z (affP X Y Z) ∧ (affP X Y Z).on := by
  unfold affOk at h
  unfold affP
  split
  · rename_i hz
    rw [if_pos hz] at h
    exact ⟨⟨h.1, h.2, hz⟩, trivial⟩
  · rename_i hz
    rw [if_neg hz] at h
    exact ⟨⟨hz, g_affx _ _ _ (mul_finv hz), g_affx _ _ _ (mul_finv hz)⟩, h⟩
theorem ok_of_rep {X Y Z : Fp} {p : Pt} (h : Rep X Y Z p) (hp : p.on) : affOk X Y Z ∧ affP X Y Z = p := by
  unfold affOk affP
  cases p with
  | far =>
    obtain ⟨h1, h2, h3⟩ := h
    rw [if_pos h3, if_pos h3]
    exact ⟨⟨h1, h2⟩, rfl⟩
  | aff x y =>
    obtain ⟨h1, rfl, rfl⟩ := h
    rw [if_neg h1, if_neg h1, g_affx' _ _ _ (mul_finv h1), g_affx' _ _ _ (mul_finv h1)]
    exact ⟨hp, rfl⟩
theorem Rep.neg {X Y Z : Fp} {p : Pt} (h : Rep X Y Z p) : Rep X (0 - Y) Z (pneg p) := by
  cases p with
  | far => exact ⟨h.1, fun e => h.2.1 (g_zero_sub _ e), h.2.2⟩
  | aff x y =>
    obtain ⟨h1, rfl, rfl⟩ := h
    exact ⟨h1, rfl, g_negm _ _⟩
theorem rep_aff {x y : Fp} : Rep x y 1 (.aff x y) := ⟨one_ne, (g_one_mul x).symm, (g_one_mul y).symm⟩
theorem rep_far : Rep 0 1 0 .far := ⟨rfl, one_ne, rfl⟩
/-- Some coordinates of a point. -/
theorem rep_some (p : Pt) : ∃ X Y Z, Rep X Y Z p := by
  cases p with
  | far => exact ⟨0, 1, 0, rep_far⟩
  | aff x y => exact ⟨x, y, 1, rep_aff⟩
theorem psum_comm {p q : Pt} (hp : p.on) (hq : q.on) : psum p q = psum q p := by
  obtain ⟨X, Y, Z, h⟩ := rep_some p
  obtain ⟨X', Y', Z', k⟩ := rep_some q
  have h1 := add_rep h k hp hq
  have h2 := add_rep k h hq hp
  rw [addX_comm, addY_comm, addZ_comm] at h2
  exact h1.unique h2
theorem psum_pneg (p : Pt) (hp : p.on) : psum p (pneg p) = .far := by
  cases p with
  | far => rfl
  | aff x y =>
    show asum x y x (0 - y) = .far
    unfold asum
    rw [if_neg (fun h => h rfl), if_pos]
    left
    intro e
    exact dbl_ne (Onc.y_ne hp) (g_three x y e)
/-- The sum is infinitely far only for opposites. -/
theorem psum_far_iff {p q : Pt} (hp : p.on) (hq : q.on) (h : psum p q = .far) : q = pneg p := by
  cases p with
  | far => rw [psum_far] at h; rw [h]; rfl
  | aff x y =>
    cases q with
    | far => rw [psum_far'] at h; cases h
    | aff x' y' =>
      have h : asum x y x' y' = .far := h
      unfold asum at h
      split at h
      · cases h
      · rename_i hx
        have e : x = x' := Classical.not_not.1 hx
        subst e
        split at h
        · rename_i hy
          have hne : y ≠ y' := hy.resolve_right (Onc.y_ne hp)
          have hs := (mul_eq_zero' (g_sq_eq _ y y' hp hq)).resolve_left (g_sub' _ _ hne)
          rw [g_add_zero' _ _ hs]
          rfl
        · cases h
end Go.Proofs.Ytnjjelepcnofjaa.Ecp
