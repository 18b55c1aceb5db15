/-
  What is proved here: how an array of integers that came in reads, and how a law's row follows from its walk. No program in sight.
  Conditions: none.
-/
import Derived.ProofKit
import Derived.Carry
import Derived.OpenShut
namespace Go.Proofs.Ytgdjmgcolipcnaa
open Go.ChangeShapes Go.WideShapes Go.ChangeAt Go.RowKit

def intAt : Option Value → Int
  | some (Value.int _ x) => x
  | _ => 0

/-- The integers of an array that came in. -/
theorem okWide_ints {P : Program} {w : World} {r : Reach} {base : Nat} {t e : TypeId} {k : IntKind} {n : Nat} {v : Value} (u : TypeId) (ht : P.underlying t = some (.array n u)) (hc : P.cellsOf t = n)
    (hts : P.cellTypes P.depth t = some (List.replicate n e)) (he : P.underlying e = some (.int k)) (h : Value.okWide P w r base t v) :
    ∃ l : List Int, v = .agg (l.map (Value.int k)).toArray ∧ l.length = n ∧ ∀ x ∈ l, (Lit.int k x).wf = true := by
  simp only [Value.okWide, ht] at h
  obtain ⟨cs, rfl, hs, ts, hts', _, hall⟩ := h
  rw [hts] at hts'
  obtain rfl := Option.some.inj hts'
  rw [hc] at hs
  have hcell : ∀ i : Nat, i < n → ∃ x : Int, cs[i]? = some (.int k x) ∧ (Lit.int k x).wf = true := by
    intro i hi
    obtain ⟨y, hy⟩ : ∃ y, cs[i]? = some y := ⟨cs[i], by simp [hs, hi]⟩
    obtain ⟨u', hu, hok⟩ := hall i y hy
    have hu' : u' = e := by
      rw [List.getElem?_replicate] at hu
      split at hu
      · exact (Option.some.inj hu).symm
      · cases hu
    subst hu'
    cases y <;> simp only [Cell.okWide, Cell.ok, he] at hok
    case int k' x =>
      obtain ⟨rfl, hx⟩ := hok
      exact ⟨x, hy, by simpa [Lit.wf, IntKind.has] using hx⟩
  refine ⟨(List.range n).map fun i => intAt cs[i]?, ?_, by simp, ?_⟩
  · congr 1
    apply Array.ext
    · simp [hs]
    · intro i h1 h2
      obtain ⟨x, hx, _⟩ := hcell i (by omega)
      have : cs[i] = .int k x := by
        have := Array.getElem?_eq_getElem h1
        rw [this] at hx
        exact Option.some.inj hx
      simp [intAt, this, hx]
  · intro x hx
    simp only [List.mem_map, List.mem_range] at hx
    obtain ⟨i, hi, rfl⟩ := hx
    obtain ⟨x, hx, hw⟩ := hcell i hi
    simp [intAt, hx, hw]

/-- Readings of arguments, carried into a world that has grown. -/
theorem Below.trodAll {H : Type} {enc : TypeId × Value → H} {P : Program} (hl : laidOutB P = true) {W W' : World} (hb : Below W.heap.size W W') :
    ∀ (ts : List TypeId) (vs : List Value) (ds : List (DataW H)) (ps : List MemPlace), (ts.all fun t => P.readableRec t && decide (t < P.types.size)) = true →
      DataW.TrodAll enc P W 0 (fun _ => true) true ts vs ds ps → (∀ x ∈ ps, x.block < W.heap.size) → DataW.TrodAll enc P W' 0 (fun b => decide (b < W.heap.size)) true ts vs ds ps
  | [], vs, ds, ps, _, h, _ => by
    cases vs <;> cases ds <;> simp_all [DataW.TrodAll]
  | t :: ts, vs, ds, ps, hr, h, hlt => by
    cases vs with
    | nil => cases ds <;> simp [DataW.TrodAll] at h
    | cons v vs =>
      cases ds with
      | nil => simp [DataW.TrodAll] at h
      | cons d ds =>
        obtain ⟨p, q, h1, h2, rfl⟩ := h
        simp only [List.all_cons, Bool.and_eq_true, decide_eq_true_eq] at hr
        exact ⟨p, q, Below.trod hl hr.1.1 hr.1.2 h1 hb (fun x hx => hlt x (by simp [hx])), Below.trodAll hl hb ts vs ds q (by simpa using hr.2) h2 (fun x hx => hlt x (by simp [hx])), rfl⟩

/-- A law's row, behind its walk: it returned true, and what was there is as it was. -/
theorem law_post {H : Type} {enc : TypeId × Value → H} {P : Program} (hl : laidOutB P = true) {f : Func} {s : ChangeSpec} {apart fresh handsOn : Bool} {W W' : World} {args : Array Value} {ds gs : List (DataW H)} {before : List MemPlace} {tb : TypeId}
    (hW : DataW.Whole enc P f.params.toList s.vars apart W args.toList ds gs before) (hvars : s.vars = []) (hres : f.resultTypes = #[tb]) (htb : P.underlying tb = some .bool)
    (hs : s.fn H ds = { results := [.lit (.bool true)], args := ds }) (hr : (f.params.toList.all fun t => P.readableRec t && decide (t < P.types.size)) = true)
    (hb : Below W.heap.size W W') : s.post enc P f apart fresh handsOn false W args (.bool true) W' := by
  have hW0 := hW
  obtain ⟨p, q, hA, hV, rfl, _, _⟩ := hW
  rw [hvars] at hV
  obtain ⟨rfl, rfl⟩ := trodVars_none hV
  refine ⟨ds, [], p ++ [], [], p, [], hW0, ?_, ?_, ?_, ?_, fun h => by cases h⟩
  · rw [List.append_nil, hs, hres]
    exact trodAll_cons_mk (shut_bool htb true) trodAll_mk0
  · rw [List.append_nil, hs]
    exact Below.trodAll hl hb _ _ _ _ hr hA (fun x hx => hW0.lt x (by simpa using hx))
  · rw [List.append_nil, hs, hvars]
    simp [DataW.TrodVars]
  · exact hb.frame _
end Go.Proofs.Ytgdjmgcolipcnaa
