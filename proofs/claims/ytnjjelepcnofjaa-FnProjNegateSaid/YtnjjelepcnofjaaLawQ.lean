/-
  What is proved here: how a struct of integers that came in reads; three coordinates out of 96 bytes; a point's row.
  Conditions: none.
-/
import Derived.Test.YtnjjelepcnofjaaLawP
import Derived.Test.YtnjjelepcnofjaaKit
namespace Go.Proofs.Ytnjjelepcnofjaa
open Go Go.ChangeShapes Go.WideShapes Go.ChangeAt Go.RowKit Ecp
set_option linter.unusedSimpArgs false
set_option linter.unusedVariables false

/-- The integers of a struct of arrays of integers that came in. -/
theorem okWide_row {P : Program} {w : World} {r : Reach} {base : Nat} {t e : TypeId} {k : IntKind} {n : Nat} {v : Value} {fs : Array Field} (ht : P.underlying t = some (.struct fs)) (hc : P.cellsOf t = n)
    (hts : P.cellTypes P.depth t = some (List.replicate n e)) (he : P.underlying e = some (.int k)) (h : Value.okWide P w r base t v) :
    ∃ l : List Int, v = .agg (l.map (Value.int k)).toArray ∧ l.length = n ∧ ∀ x ∈ l, (Lit.int k x).wf = true := by
  simp only [Value.okWide, ht] at h
  obtain ⟨cs, rfl, hs, ts, hts', _, hall⟩ := h
  rw [hts] at hts'
  obtain rfl := Option.some.inj hts'
  rw [hc] at hs
  have hcell : ∀ i : Nat, i < n → ∃ x : Int, cs[i]? = some (.int k x) ∧ (Lit.int k x).wf = true := by
    intro i hi
    obtain ⟨y, hy⟩ : ∃ y, cs[i]? = some y := ⟨cs[i], by simp [hs, hi]⟩
    obtain ⟨u', hu, hok⟩ := hall i y hy
    have hu' : u' = e := by
      rw [List.getElem?_replicate] at hu
      split at hu
      · exact (Option.some.inj hu).symm
      · cases hu
    subst hu'
    cases y <;> simp only [Cell.okWide, Cell.ok, he] at hok
    case int k' x =>
      obtain ⟨rfl, hx⟩ := hok
      exact ⟨x, hy, by simpa [Lit.wf, IntKind.has] using hx⟩
  refine ⟨(List.range n).map fun i => intAt cs[i]?, ?_, by simp, ?_⟩
  · congr 1
    apply Array.ext
    · simp [hs]
    · intro i h1 h2
      obtain ⟨x, hx, _⟩ := hcell i (by omega)
      have : cs[i] = .int k x := by
        have := Array.getElem?_eq_getElem h1
        rw [this] at hx
        exact Option.some.inj hx
      simp [intAt, this, hx]
  · intro x hx
    simp only [List.mem_map, List.mem_range] at hx
    obtain ⟨i, hi, rfl⟩ := hx
    obtain ⟨x, hx, hw⟩ := hcell i hi
    simp [intAt, hx, hw]
theorem bc_be (l : List Int) (hl : l.length = 32) (h : ∀ x ∈ l, 0 ≤ x ∧ x < 256) : bc (be l) = (l.map (Value.int .u8)).toArray := by
  rw [bc_def, bds_be l hl h, List.reverse_reverse]
theorem tc_of (l : List Int) (hl : l.length = 96) (h : ∀ x ∈ l, 0 ≤ x ∧ x < 256) : ∃ X Y Z : Int, 0 ≤ X ∧ X < R256 ∧ 0 ≤ Y ∧ Y < R256 ∧ 0 ≤ Z ∧ Z < R256 ∧ (l.map (Value.int .u8)).toArray = tc X Y Z := by
  have e : l = l.take 32 ++ (l.drop 32).take 32 ++ (l.drop 64) := by
    rw [List.append_assoc, show l.drop 64 = (l.drop 32).drop 32 by rw [List.drop_drop], List.take_append_drop, List.take_append_drop]
  have l1 : (l.take 32).length = 32 := by rw [List.length_take]; omega
  have l2 : ((l.drop 32).take 32).length = 32 := by rw [List.length_take, List.length_drop]; omega
  have l3 : (l.drop 64).length = 32 := by rw [List.length_drop]; omega
  have b1 : ∀ x ∈ l.take 32, 0 ≤ x ∧ x < 256 := fun x hx => h x (List.mem_of_mem_take hx)
  have b2 : ∀ x ∈ (l.drop 32).take 32, 0 ≤ x ∧ x < 256 := fun x hx => h x (List.mem_of_mem_drop (List.mem_of_mem_take hx))
  have b3 : ∀ x ∈ l.drop 64, 0 ≤ x ∧ x < 256 := fun x hx => h x (List.mem_of_mem_drop hx)
  have k1 := be_bd _ l1 b1
  have k2 := be_bd _ l2 b2
  have k3 := be_bd _ l3 b3
  refine ⟨be (l.take 32), be ((l.drop 32).take 32), be (l.drop 64), k1.1, k1.2, k2.1, k2.2, k3.1, k3.2, ?_⟩
  have ht : ∀ X Y Z, tc X Y Z = bc X ++ bc Y ++ bc Z := fun X Y Z => by unfold tc; rfl
  rw [ht, bc_be _ l1 b1, bc_be _ l2 b2, bc_be _ l3 b3]
  apply Array.ext'
  simp only [Array.toList_append]
  rw [← List.map_append, ← List.map_append, ← e]
theorem pv_pc (q : Pt) : ∃ f X Y, pv q = pc f X Y := by
  cases q with
  | far => exact ⟨_, _, _, rfl⟩
  | aff a b => exact ⟨_, _, _, rfl⟩
end Go.Proofs.Ytnjjelepcnofjaa
