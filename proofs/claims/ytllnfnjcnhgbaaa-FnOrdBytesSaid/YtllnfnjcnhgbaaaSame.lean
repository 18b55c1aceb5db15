/-
  What is proved here: what the laws' comparison of bytes returns.
  Conditions: those of the theorem.
-/
import Derived.Test.YtllnfnjcnhgbaaaRows
import Derived.Test.YtllnfnjcnhgbaaaMem
import Derived.WalkKit
import Derived.Outline
import Derived.Laws.BytesArg
import Derived.Lib.Hide
namespace Go.Proofs.Ytllnfnjcnhgbaaa
open Go.RowKit
set_option linter.unusedSimpArgs false
set_option linter.unusedVariables false

theorem strOfNums_inj {xs ys : List Int} (hx : ∀ x ∈ xs, 0 ≤ x ∧ x < 256) (hy : ∀ x ∈ ys, 0 ≤ x ∧ x < 256) : (strOfNums xs = strOfNums ys) ↔ xs = ys := by
  constructor
  · intro h
    have h1 : xs.map (fun n => UInt8.ofNat n.toNat) = ys.map (fun n => UInt8.ofNat n.toNat) := by
      rw [← strOfNums_data, ← strOfNums_data, h]
    have h2 := congrArg (List.map (fun u : UInt8 => (u.toNat : Int))) h1
    have e : ∀ l : List Int, (∀ x ∈ l, 0 ≤ x ∧ x < 256) → (l.map (fun n => UInt8.ofNat n.toNat)).map (fun u : UInt8 => (u.toNat : Int)) = l := by
      intro l hl
      rw [List.map_map]
      conv => rhs; rw [← List.map_id l]
      apply List.map_congr_left
      intro x hx
      have := hl x hx
      simp
      omega
    rw [e xs hx, e ys hy] at h2
    exact h2
  · rintro rfl; rfl

set_option maxHeartbeats 1000000 in
/-- Two slices that are not nil, by their bytes. -/
theorem same_any (b1 o1 c1 b2 o2 c2 : Nat) (xs ys : List Int) (n1 n2 : Nat) (h1 : xs.length = n1) (h2 : ys.length = n2) (w : World)
    (k1 : ∀ i, i < n1 → w.cell? ⟨b1, o1 + i, none⟩ = some (.int .u8 (xs.getD i 0))) (k2 : ∀ i, i < n2 → w.cell? ⟨b2, o2 + i, none⟩ = some (.int .u8 (ys.getD i 0)))
    (hx : ∀ x ∈ xs, 0 ≤ x ∧ x < 256) (hy : ∀ x ∈ ys, 0 ≤ x ∧ x < 256) :
    Calls Try.prog 17 #[.slice (some ⟨b1, o1, none⟩) n1 c1, .slice (some ⟨b2, o2, none⟩) n2 c2] w fun e w' => e = .returned (.bool (decide (xs = ys))) ∧ w' = w := by
  have r1 := run_convert_bytes_arg w 34 5 Try.underlying34 Try.underlying5 b1 o1 n1 c1 xs h1 k1 9 Try.underlying9
  have r2 := run_convert_bytes_arg w 34 5 Try.underlying34 Try.underlying5 b2 o2 n2 c2 ys h2 k2 9 Try.underlying9
  clear k1 k2
  have H := Lib.hid (And.intro h1 (And.intro h2 (And.intro hx hy))); clear h1 h2 hx hy
  go_enter Try.func17, Try.ntmps17
  go_wp2
  go_ret
  refine ⟨?_, rfl⟩
  obtain ⟨h1, h2, hx, hy⟩ := H.out
  refine congrArg (fun b => Ending.returned (Value.bool b)) ?_
  by_cases e : xs = ys
  · have e2 := (strOfNums_inj hx hy).2 e
    rw [decide_eq_true e, e2]
    simp
  · have e2 : ¬ strOfNums xs = strOfNums ys := fun h => e ((strOfNums_inj hx hy).1 h)
    rw [decide_eq_false e]
    exact beq_false_of_ne fun h => e2 (by rw [ByteArray.toList_eq, ByteArray.toList_eq] at h; exact ByteArray.ext (Array.toList_inj.1 h))
end Go.Proofs.Ytllnfnjcnhgbaaa
