/-
  What is proved here: so many times a point, by doubling and adding from the highest bit. No program in sight.
  Conditions: those of each theorem.
-/
import Derived.Test.YtmepgkcijeobkaaFldAlgAlgB
namespace Go.Proofs.Ytmepgkcijeobkaa
open Ecp

/-- n times p, by doubling and adding. -/
def pm (n : Nat) (p : Pt) : Pt :=
  if h : n = 0 then .far else if n % 2 = 1 then psum (psum (pm (n / 2) p) (pm (n / 2) p)) p else psum (pm (n / 2) p) (pm (n / 2) p)
termination_by n
decreasing_by all_goals omega
theorem pm_zero (p : Pt) : pm 0 p = .far := by unfold pm; rw [dif_pos rfl]
theorem pm_even (m : Nat) (p : Pt) : pm (2 * m) p = psum (pm m p) (pm m p) := by
  by_cases h : m = 0
  · subst h
    rw [Nat.mul_zero, pm_zero]
    rfl
  · rw [pm, dif_neg (by omega), if_neg (by omega), show 2 * m / 2 = m by omega]
theorem pm_odd (m : Nat) (p : Pt) : pm (2 * m + 1) p = psum (psum (pm m p) (pm m p)) p := by
  rw [pm, dif_neg (by omega), if_pos (by omega), show (2 * m + 1) / 2 = m by omega]
theorem pm_odd' (m : Nat) (p : Pt) : pm (2 * m + 1) p = psum (pm (2 * m) p) p := by rw [pm_odd, pm_even]
theorem pm_one (p : Pt) : pm 1 p = p := by
  have h := pm_odd 0 p
  rw [pm_zero] at h
  rw [show 2 * 0 + 1 = 1 from rfl] at h
  rw [h]
  cases p <;> rfl
theorem pm_step (K i : Nat) (p : Pt) : pm (K / 2 ^ i) p = if K / 2 ^ i % 2 = 1 then psum (psum (pm (K / 2 ^ (i + 1)) p) (pm (K / 2 ^ (i + 1)) p)) p else psum (pm (K / 2 ^ (i + 1)) p) (pm (K / 2 ^ (i + 1)) p) := by
  have h : K / 2 ^ (i + 1) = K / 2 ^ i / 2 := by rw [Nat.pow_succ, Nat.div_div_eq_div_mul]
  rw [h]
  generalize K / 2 ^ i = m
  by_cases hb : m % 2 = 1
  · rw [if_pos hb, ← pm_odd]; congr 1; omega
  · rw [if_neg hb, ← pm_even]; congr 1; omega
theorem pm_on (n : Nat) {p : Pt} (hp : p.on) : (pm n p).on := by
  induction n using Nat.strongRecOn with
  | _ n ih =>
    by_cases h : n = 0
    · subst h; rw [pm_zero]; trivial
    · have := ih (n / 2) (by omega)
      rw [pm, dif_neg h]
      split
      · exact psum_on (psum_on this this) hp
      · exact psum_on this this
end Go.Proofs.Ytmepgkcijeobkaa
