/-
  What is proved here: how the engine starts at pointers, and what it leaves. No program in sight.
  Conditions: those of each theorem.
-/
import Derived.Test.YtblhnmahkabmiaaEngC
namespace Go.Proofs.Ytblhnmahkabmiaa
open Go Go.RowKit
set_option linter.unusedSimpArgs false
set_option linter.unusedVariables false

theorem lookM_mem : ∀ {l : MemL} {p o : Nat} {v : IntKind × Src}, lookM l p o = some v → ((p, o), v) ∈ l
  | ((p', o'), v') :: l, p, o, v, h => by
    simp only [lookM] at h
    split at h
    · rename_i he
      simp only [Bool.and_eq_true] at he
      have e1 := Nat.eq_of_beq_eq_true he.1
      have e2 := Nat.eq_of_beq_eq_true he.2
      subst e1 e2
      obtain rfl := Option.some.inj h
      exact List.mem_cons_self
    · exact List.mem_cons_of_mem _ (lookM_mem h)
theorem lookE_mem : ∀ {l : List (Nat × SV)} {t : Nat} {v : SV}, lookE l t = some v → (t, v) ∈ l
  | (t', v') :: l, t, v, h => by
    simp only [lookE] at h
    split at h
    · rename_i he
      have e1 := Nat.eq_of_beq_eq_true he
      subst e1
      obtain rfl := Option.some.inj h
      exact List.mem_cons_self
    · exact List.mem_cons_of_mem _ (lookE_mem h)

/-- Cells b, o, o + 1 .. hold these integers. -/
def Held (k : IntKind) (w : World) (b o : Nat) (xs : List Int) : Prop := ∀ i x, xs[i]? = some x → w.cell? ⟨b, o + i, none⟩ = some (.int k x)
/-- len cells from b, o on may be written. -/
def Free (w : World) (b o len : Nat) : Prop := ∀ i, i < len → (∃ u, w.cell? ⟨b, o + i, none⟩ = some u) ∧ w.frozen? ⟨b, o + i, none⟩ = false
/-- These cells alone have been turned; blocks may have come. -/
structure Turned (b o len : Nat) (w w' : World) : Prop where
  away : Away b w w'
  keep : ∀ i, (∀ j, j < len → i ≠ o + j) → w'.cell? ⟨b, i, none⟩ = w.cell? ⟨b, i, none⟩
  frz : ∀ i, w'.frozen? ⟨b, i, none⟩ = w.frozen? ⟨b, i, none⟩

def memOf (k : IntKind) (p base : Nat) : Nat → MemL
  | 0 => []
  | m + 1 => ((p, m), (k, .v (base + m))) :: memOf k p base m
theorem memOf_mem {k : IntKind} {p base : Nat} : ∀ {m : Nat} {q o : Nat} {k' : IntKind} {s : Src}, ((q, o), (k', s)) ∈ memOf k p base m → q = p ∧ o < m ∧ k' = k ∧ s = .v (base + o)
  | m + 1, q, o, k', s, h => by
    simp only [memOf, List.mem_cons] at h
    rcases h with h | h
    · obtain ⟨⟨rfl, rfl⟩, rfl, rfl⟩ := (by simpa [Prod.mk.injEq] using h : (q = p ∧ o = m) ∧ k' = k ∧ s = .v (base + m))
      exact ⟨rfl, Nat.lt_succ_self _, rfl, rfl⟩
    · obtain ⟨h1, h2, h3, h4⟩ := memOf_mem h
      exact ⟨h1, Nat.lt_succ_of_lt h2, h3, h4⟩

/-- The start at an out pointer and one in pointer, m integers of kind k behind it. -/
def init2 (sz : Nat) (k : IntKind) (m : Nat) : St := { n := m, size := sz, np := 2, env := [(0, .ptr 0 0), (1, .ptr 1 0)], defs := [], mem := memOf k 1 0 m }
/-- The start at an out pointer and two in pointers, m words behind each. -/
def init3 (sz : Nat) (k : IntKind) (m : Nat) : St := { n := m + m, size := sz, np := 3, env := [(0, .ptr 0 0), (1, .ptr 1 0), (2, .ptr 2 0)], defs := [], mem := memOf k 1 0 m ++ memOf k 2 m m }

section
variable {P : Program} {D : EngD}

theorem eng2 (S : EngM P D) {f : FuncId} {fn : Func} {olen m sz n : Nat} {k : IntKind} {ds : List Ex} (hf : P.funcs[f]? = some fn) (hres : fn.results = #[]) (hsz : fn.ntmps = sz) (h2 : 2 ≤ sz)
    {X : Type} (out : St → X) (ox : X)
    (hrun : (fn.body.bind fun c => (runC D 2 olen c (init2 sz k m)).map fun p => (p.1.n, p.1.defs, out p.1)) = some (n, ds, ox))
    (b0 o0 b1 o1 : Nat) (xs : List Int) (hm : xs.length = m) (hx : ∀ x ∈ xs, 0 ≤ x ∧ x < 18446744073709551616) (w : World) (hb0 : b0 < w.heap.size) (hb1 : b1 < w.heap.size) (hfree : Free w b0 o0 olen) (hheld : Held k w b1 o1 xs) :
    Calls P f #[.pointer (some ⟨b0, o0, none⟩), .pointer (some ⟨b1, o1, none⟩)] w fun e w' => e = .returned (.tuple #[]) ∧ Turned b0 o0 olen w w' ∧
      ∃ ρ : Nat → Int, (∀ i x, xs[i]? = some x → ρ i = x) ∧ (∀ i, i < n → 0 ≤ ρ i ∧ ρ i < 18446744073709551616) ∧ (∀ i x, i < n → ds[n - 1 - i]? = some x → ρ i = ev ρ x) ∧
        ∃ st' : St, out st' = ox ∧ ∀ o k' s, lookM st'.mem 0 o = some (k', s) → w'.cell? ⟨b0, o0 + o, none⟩ = some (.int k' (den ρ s)) := by
  cases hb : fn.body with
  | none => rw [hb] at hrun; simp at hrun
  | some c =>
    rw [hb] at hrun
    simp only [Option.bind_some] at hrun
    obtain ⟨⟨st', r⟩, hr, he⟩ := Option.map_eq_some_iff.1 hrun
    simp only [Prod.mk.injEq] at he
    obtain ⟨hn, hd, ho⟩ := he
    have hxs : ∀ i, i < m → xs[i]? = some (xs.getD i 0) := fun i hi => by
      rw [List.getD_eq_getElem?_getD, List.getElem?_eq_getElem (by omega)]; rfl
    have R : Rel (fun p => if p = 0 then b0 else b1) (fun p => if p = 0 then o0 else o1) (fun i => xs.getD i 0) (init2 sz k m) { tmps := #[.pointer (some ⟨b0, o0, none⟩), .pointer (some ⟨b1, o1, none⟩)] ++ Array.replicate (fn.ntmps - (#[Value.pointer (some ⟨b0, o0, none⟩), .pointer (some ⟨b1, o1, none⟩)] : Array Value).size) undef, defers := [] } := by
      refine ⟨?_, ?_, ?_, ?_, ?_, rfl⟩
      · simp [hsz, init2]; omega
      · intro t sv ht
        have hmem := lookE_mem ht
        simp only [init2, List.mem_cons, List.not_mem_nil, or_false, Prod.mk.injEq] at hmem
        rcases hmem with ⟨rfl, rfl⟩ | ⟨rfl, rfl⟩
        · exact ⟨by rw [Array.getElem?_append_left (by simp)]; rfl, by simp [SV.lt, init2]⟩
        · exact ⟨by rw [Array.getElem?_append_left (by simp)]; rfl, by simp [SV.lt, init2]⟩
      · intro i hi
        have hi' : i < m := hi
        exact hx _ (List.mem_of_getElem? (hxs i hi'))
      · intro i e hi he
        simp [init2] at he
      · intro p o k' s h
        obtain ⟨h1, h2, h3, h4⟩ := memOf_mem (lookM_mem h)
        subst h1 h4
        exact ⟨by simp [Src.lt, init2]; exact h2, by simp [init2]⟩
    have W : WRel (fun p => if p = 0 then b0 else b1) (fun p => if p = 0 then o0 else o1) (fun i => xs.getD i 0) 2 olen w (init2 sz k m) w := by
      refine ⟨?_, Nat.le_refl _, by decide, ?_, ?_, ?_, ?_, Away.refl _ _, fun _ _ => rfl, fun _ => rfl⟩
      · intro p o k' s h
        obtain ⟨h1, h2, h3, h4⟩ := memOf_mem (lookM_mem h)
        subst h1 h3 h4
        simp only [den, Nat.zero_add]
        exact hheld o _ (hxs o h2)
      · intro p hp
        show (if p = 0 then b0 else b1) < _
        split <;> assumption
      · intro p h1 h2
        simp only [init2] at h2
        omega
      · intro p q h1 h2
        simp only [init2] at h2
        omega
      · intro i hi
        exact hfree i hi
    refine (eng_call S hf hb hres hr R W).mono ?_
    rintro e w' ⟨rfl, β', γ', ρ', a', hp, hA, R', W'⟩
    obtain ⟨e1, e2⟩ := hp 0 (by decide)
    simp only [if_true] at e1 e2
    have hkeep := W'.keep
    have hfrz := W'.frz
    have haway := W'.away
    rw [e1] at hkeep hfrz haway
    rw [e2] at hkeep
    refine ⟨rfl, ⟨haway, hkeep, hfrz⟩, ρ', ?_, ?_, ?_, st', ho, ?_⟩
    · intro i x hi
      have hlt : i < m := by
        have := (List.getElem?_eq_some_iff.1 hi).1
        omega
      rw [hA i hlt]
      show xs.getD i 0 = x
      rw [List.getD_eq_getElem?_getD, hi]
      rfl
    · intro i hi
      exact R'.bound i (by rw [hn]; exact hi)
    · intro i x hi hx'
      exact (R'.defs i x (by rw [hn]; exact hi) (by rw [hn, hd]; exact hx')).1
    · intro o k' s h
      have := W'.mem 0 o k' s h
      rw [e1, e2] at this
      exact this
end
end Go.Proofs.Ytblhnmahkabmiaa
