/-
  What is proved here: how the engine on words starts at other lists of parameters: an out pointer alone, two in pointers, a bit and two in pointers. No program in sight.
  Conditions: those of each theorem.
-/
import Derived.Test.YtgdjmgcolipcnaaEngBEngCEngD
namespace Go.Proofs.Ytgdjmgcolipcnaa
open Go Go.RowKit
set_option linter.unusedSimpArgs false
set_option linter.unusedVariables false

section
variable {P : Program} {D : EngD}

theorem engN (S : EngM P D) {f : FuncId} {fn : Func} {np0 olen n : Nat} {ds : List Ex} {st0 : St} {args : Array Value} (hf : P.funcs[f]? = some fn) (hres : fn.results = #[])
    {X : Type} (out : St → X) (ox : X) (hrun : (fn.body.bind fun c => (runC D np0 olen c st0).map fun p => (p.1.n, p.1.defs, out p.1)) = some (n, ds, ox))
    (β γ : Nat → Nat) (ρ : Nat → Int) (w : World) (hpos : 0 < np0) (R : Rel β γ ρ st0 { tmps := args ++ Array.replicate (fn.ntmps - args.size) undef, defers := [] }) (W : WRel β γ ρ np0 olen w st0 w) :
    Calls P f args w fun e w' => e = .returned (.tuple #[]) ∧ Turned (β 0) (γ 0) olen w w' ∧
      ∃ ρ' : Nat → Int, (∀ i, i < st0.n → ρ' i = ρ i) ∧ (∀ i, i < n → 0 ≤ ρ' i ∧ ρ' i < 18446744073709551616) ∧ (∀ i x, i < n → ds[n - 1 - i]? = some x → ρ' i = ev ρ' x) ∧
        ∃ st' : St, out st' = ox ∧ ∀ o k' s, lookM st'.mem 0 o = some (k', s) → w'.cell? ⟨β 0, γ 0 + o, none⟩ = some (.int k' (den ρ' s)) := by
  cases hb : fn.body with
  | none => rw [hb] at hrun; simp at hrun
  | some c =>
    rw [hb] at hrun
    simp only [Option.bind_some] at hrun
    obtain ⟨⟨st', r⟩, hr, he⟩ := Option.map_eq_some_iff.1 hrun
    simp only [Prod.mk.injEq] at he
    obtain ⟨hn, hd, ho⟩ := he
    refine (eng_call S hf hb hres hr R W).mono ?_
    rintro e w' ⟨rfl, β', γ', ρ', a', hp, hA, R', W'⟩
    obtain ⟨e1, e2⟩ := hp 0 hpos
    have hkeep := W'.keep
    have hfrz := W'.frz
    have haway := W'.away
    rw [e1] at hkeep hfrz haway
    rw [e2] at hkeep
    refine ⟨rfl, ⟨haway, hkeep, hfrz⟩, ρ', fun i hi => hA i hi, ?_, ?_, st', ho, ?_⟩
    · intro i hi
      exact R'.bound i (by rw [hn]; exact hi)
    · intro i x hi hx'
      exact (R'.defs i x (by rw [hn]; exact hi) (by rw [hn, hd]; exact hx')).1
    · intro o k' s h
      have := W'.mem 0 o k' s h
      rw [e1, e2] at this
      exact this

/-- The start, at large. -/
theorem Rel.start {β γ : Nat → Nat} {ρ : Nat → Int} {n sz np0 nt : Nat} {env : List (Nat × SV)} {mem : MemL} {args : Array Value} (hn : nt = sz) (hsz : args.size ≤ sz)
    (henv : ∀ t v, (t, v) ∈ env → t < args.size ∧ args[t]? = some (v.val β γ ρ) ∧ v.lt n np0) (hb : ∀ i, i < n → 0 ≤ ρ i ∧ ρ i < 18446744073709551616)
    (hmem : ∀ p q k s, ((p, q), (k, s)) ∈ mem → s.lt n ∧ p < np0) : Rel β γ ρ { n := n, size := sz, np := np0, env := env, defs := [], mem := mem } { tmps := args ++ Array.replicate (nt - args.size) undef, defers := [] } := by
  refine ⟨?_, ?_, hb, ?_, ?_, rfl⟩
  · simp; omega
  · intro t sv ht
    obtain ⟨h1, h2, h3⟩ := henv t sv (lookE_mem ht)
    exact ⟨by rw [Array.getElem?_append_left h1]; exact h2, h3⟩
  · intro i e hi he
    simp at he
  · intro p o k' s h
    exact hmem p o k' s (lookM_mem h)
theorem WRel.start {β γ : Nat → Nat} {ρ : Nat → Int} {n sz np0 olen : Nat} {env : List (Nat × SV)} {mem : MemL} {w : World} (hpos : 0 < np0)
    (hmem : ∀ p q k s, ((p, q), (k, s)) ∈ mem → w.cell? ⟨β p, γ p + q, none⟩ = some (.int k (den ρ s))) (hpar : ∀ p, p < np0 → β p < w.heap.size) (hout : Free w (β 0) (γ 0) olen) :
    WRel β γ ρ np0 olen w { n := n, size := sz, np := np0, env := env, defs := [], mem := mem } w := by
  refine ⟨?_, Nat.le_refl _, hpos, hpar, ?_, ?_, hout, Away.refl _ _, fun _ _ => rfl, fun _ => rfl⟩
  · intro p o k' s h
    exact hmem p o k' s (lookM_mem h)
  · intro p h1 h2
    simp only at h2
    omega
  · intro p q h1 h2
    simp only at h2
    omega

/-- An out pointer alone. -/
def init1 (sz : Nat) : St := { n := 0, size := sz, np := 1, env := [(0, .ptr 0 0)], defs := [], mem := [] }
theorem eng1 (S : EngM P D) {f : FuncId} {fn : Func} {olen n sz : Nat} {ds : List Ex} (hf : P.funcs[f]? = some fn) (hres : fn.results = #[]) (hsz : fn.ntmps = sz) (h2 : 1 ≤ sz)
    {X : Type} (out : St → X) (ox : X) (hrun : (fn.body.bind fun c => (runC D 1 olen c (init1 sz)).map fun p => (p.1.n, p.1.defs, out p.1)) = some (n, ds, ox))
    (b0 o0 : Nat) (w : World) (hb0 : b0 < w.heap.size) (hfree : Free w b0 o0 olen) :
    Calls P f #[.pointer (some ⟨b0, o0, none⟩)] w fun e w' => e = .returned (.tuple #[]) ∧ Turned b0 o0 olen w w' ∧
      ∃ ρ' : Nat → Int, (∀ i, i < n → 0 ≤ ρ' i ∧ ρ' i < 18446744073709551616) ∧ (∀ i x, i < n → ds[n - 1 - i]? = some x → ρ' i = ev ρ' x) ∧
        ∃ st' : St, out st' = ox ∧ ∀ o k' s, lookM st'.mem 0 o = some (k', s) → w'.cell? ⟨b0, o0 + o, none⟩ = some (.int k' (den ρ' s)) := by
  refine (engN S hf hres out ox hrun (fun _ => b0) (fun _ => o0) (fun _ => 0) w (by decide) (Rel.start hsz (by simpa using h2) ?_ ?_ ?_) (WRel.start (by decide) ?_ ?_ hfree)).mono ?_
  · intro t v h
    obtain ⟨rfl, rfl⟩ : t = 0 ∧ v = .ptr 0 0 := by simpa [Prod.mk.injEq] using h
    exact ⟨by simp, rfl, by simp [SV.lt]⟩
  · intro i hi; exact absurd hi (Nat.not_lt_zero _)
  · intro p q k s h; simp at h
  · intro p q k s h; simp at h
  · intro p hp; exact hb0
  · rintro e w' ⟨h1, h2, ρ', h3, h4, h5, st', h6, h7⟩
    exact ⟨h1, h2, ρ', h4, h5, st', h6, h7⟩

theorem getD_app0 {xs ys : List Int} {m i : Nat} (hm : xs.length = m) (hi : i < m) : (xs ++ ys).getD i 0 = xs.getD i 0 := by
  rw [List.getD_eq_getElem?_getD, List.getD_eq_getElem?_getD, List.getElem?_append_left (by omega)]
theorem getD_app1 {xs ys : List Int} {m i : Nat} (hm : xs.length = m) : (xs ++ ys).getD (m + i) 0 = ys.getD i 0 := by
  rw [List.getD_eq_getElem?_getD, List.getD_eq_getElem?_getD, List.getElem?_append_right (by omega), hm, Nat.add_sub_cancel_left]
theorem getD_in' {xs : List Int} {i : Nat} (hi : i < xs.length) : xs[i]? = some (xs.getD i 0) := by
  rw [List.getD_eq_getElem?_getD, List.getElem?_eq_getElem hi]; rfl

/-- The memory of two in pointers. -/
theorem mem2 {k : IntKind} {m : Nat} {b0 o0 b1 o1 b2 o2 : Nat} {xs ys : List Int} {w : World} (hx : xs.length = m) (hy : ys.length = m) (hheld1 : Held k w b1 o1 xs) (hheld2 : Held k w b2 o2 ys) :
    ∀ p q k' s, ((p, q), (k', s)) ∈ memOf k 1 0 m ++ memOf k 2 m m → w.cell? ⟨(if p = 0 then b0 else if p = 1 then b1 else b2), (if p = 0 then o0 else if p = 1 then o1 else o2) + q, none⟩ = some (.int k' (den (fun i => (xs ++ ys).getD i 0) s)) := by
  intro p q k' s h
  rcases List.mem_append.1 h with h | h
  · obtain ⟨rfl, h2, rfl, rfl⟩ := memOf_mem h
    simp only [den, Nat.zero_add, Nat.one_ne_zero, if_false, if_true]
    rw [getD_app0 hx h2]
    exact hheld1 q _ (getD_in' (by omega))
  · obtain ⟨rfl, h2, rfl, rfl⟩ := memOf_mem h
    simp only [den, getD_app1 hx]
    exact hheld2 q _ (getD_in' (by omega))
theorem bd2 {m : Nat} {xs ys : List Int} (hx : xs.length = m) (hy : ys.length = m) (bx : ∀ x ∈ xs, 0 ≤ x ∧ x < 18446744073709551616) (by_ : ∀ x ∈ ys, 0 ≤ x ∧ x < 18446744073709551616) :
    ∀ i, i < m + m → 0 ≤ (xs ++ ys).getD i 0 ∧ (xs ++ ys).getD i 0 < 18446744073709551616 := by
  intro i hi
  have hl : i < (xs ++ ys).length := by simp; omega
  have := List.mem_of_getElem? (getD_in' hl)
  rcases List.mem_append.1 this with h | h
  · exact bx _ h
  · exact by_ _ h

theorem eng3 (S : EngM P D) {f : FuncId} {fn : Func} {olen m sz n : Nat} {k : IntKind} {ds : List Ex} (hf : P.funcs[f]? = some fn) (hres : fn.results = #[]) (hsz : fn.ntmps = sz) (h2 : 3 ≤ sz)
    {X : Type} (out : St → X) (ox : X) (hrun : (fn.body.bind fun c => (runC D 3 olen c (init3 sz k m)).map fun p => (p.1.n, p.1.defs, out p.1)) = some (n, ds, ox))
    (b0 o0 b1 o1 b2 o2 : Nat) (xs ys : List Int) (hm : xs.length = m) (hm' : ys.length = m) (hx : ∀ x ∈ xs, 0 ≤ x ∧ x < 18446744073709551616) (hy : ∀ x ∈ ys, 0 ≤ x ∧ x < 18446744073709551616) (w : World)
    (hb0 : b0 < w.heap.size) (hb1 : b1 < w.heap.size) (hb2 : b2 < w.heap.size) (hfree : Free w b0 o0 olen) (hheld1 : Held k w b1 o1 xs) (hheld2 : Held k w b2 o2 ys) :
    Calls P f #[.pointer (some ⟨b0, o0, none⟩), .pointer (some ⟨b1, o1, none⟩), .pointer (some ⟨b2, o2, none⟩)] w fun e w' => e = .returned (.tuple #[]) ∧ Turned b0 o0 olen w w' ∧
      ∃ ρ' : Nat → Int, (∀ i, i < m → ρ' i = xs.getD i 0) ∧ (∀ i, i < m → ρ' (m + i) = ys.getD i 0) ∧ (∀ i, i < n → 0 ≤ ρ' i ∧ ρ' i < 18446744073709551616) ∧ (∀ i x, i < n → ds[n - 1 - i]? = some x → ρ' i = ev ρ' x) ∧
        ∃ st' : St, out st' = ox ∧ ∀ o k' s, lookM st'.mem 0 o = some (k', s) → w'.cell? ⟨b0, o0 + o, none⟩ = some (.int k' (den ρ' s)) := by
  refine (engN S hf hres out ox hrun (fun p => if p = 0 then b0 else if p = 1 then b1 else b2) (fun p => if p = 0 then o0 else if p = 1 then o1 else o2) (fun i => (xs ++ ys).getD i 0) w (by decide)
    (Rel.start hsz (by simpa using h2) ?_ (bd2 hm hm' hx hy) ?_) (WRel.start (by decide) (mem2 hm hm' hheld1 hheld2) ?_ hfree)).mono ?_
  · intro t v h
    simp only [List.mem_cons, List.not_mem_nil, or_false, Prod.mk.injEq] at h
    rcases h with ⟨rfl, rfl⟩ | ⟨rfl, rfl⟩ | ⟨rfl, rfl⟩ <;> exact ⟨by simp, rfl, by simp [SV.lt]⟩
  · intro p q k' s h
    rcases List.mem_append.1 h with h | h
    · obtain ⟨rfl, h2, rfl, rfl⟩ := memOf_mem h
      exact ⟨by simp [Src.lt]; omega, by decide⟩
    · obtain ⟨rfl, h2, rfl, rfl⟩ := memOf_mem h
      exact ⟨by simp [Src.lt]; omega, by decide⟩
  · intro p hp
    show (if p = 0 then b0 else if p = 1 then b1 else b2) < _
    split
    · exact hb0
    · split
      · exact hb1
      · exact hb2
  · rintro e w' ⟨h1, h2, ρ', h3, h4, h5, st', h6, h7⟩
    exact ⟨h1, h2, ρ', fun i hi => (h3 i (by show i < m + m; omega)).trans (getD_app0 hm hi), fun i hi => (h3 (m + i) (by show m + i < m + m; omega)).trans (getD_app1 hm), h4, h5, st', h6, h7⟩

/-- An out pointer, a bit, two in pointers. -/
def init4 (sz : Nat) (z : Int) (m : Nat) : St := { n := m + m, size := sz, np := 3, env := [(0, .ptr 0 0), (1, .num .u64 (.c z)), (2, .ptr 1 0), (3, .ptr 2 0)], defs := [], mem := memOf .u64 1 0 m ++ memOf .u64 2 m m }
theorem eng4 (S : EngM P D) {f : FuncId} {fn : Func} {olen m sz n : Nat} {z : Int} {ds : List Ex} (hf : P.funcs[f]? = some fn) (hres : fn.results = #[]) (hsz : fn.ntmps = sz) (h2 : 4 ≤ sz)
    {X : Type} (out : St → X) (ox : X) (hrun : (fn.body.bind fun c => (runC D 3 olen c (init4 sz z m)).map fun p => (p.1.n, p.1.defs, out p.1)) = some (n, ds, ox))
    (b0 o0 b1 o1 b2 o2 : Nat) (xs ys : List Int) (hm : xs.length = m) (hm' : ys.length = m) (hx : ∀ x ∈ xs, 0 ≤ x ∧ x < 18446744073709551616) (hy : ∀ x ∈ ys, 0 ≤ x ∧ x < 18446744073709551616) (w : World)
    (hb0 : b0 < w.heap.size) (hb1 : b1 < w.heap.size) (hb2 : b2 < w.heap.size) (hfree : Free w b0 o0 olen) (hheld1 : Held .u64 w b1 o1 xs) (hheld2 : Held .u64 w b2 o2 ys) :
    Calls P f #[.pointer (some ⟨b0, o0, none⟩), .int .u64 z, .pointer (some ⟨b1, o1, none⟩), .pointer (some ⟨b2, o2, none⟩)] w fun e w' => e = .returned (.tuple #[]) ∧ Turned b0 o0 olen w w' ∧
      ∃ ρ' : Nat → Int, (∀ i, i < m → ρ' i = xs.getD i 0) ∧ (∀ i, i < m → ρ' (m + i) = ys.getD i 0) ∧ (∀ i, i < n → 0 ≤ ρ' i ∧ ρ' i < 18446744073709551616) ∧ (∀ i x, i < n → ds[n - 1 - i]? = some x → ρ' i = ev ρ' x) ∧
        ∃ st' : St, out st' = ox ∧ ∀ o k' s, lookM st'.mem 0 o = some (k', s) → w'.cell? ⟨b0, o0 + o, none⟩ = some (.int k' (den ρ' s)) := by
  refine (engN S hf hres out ox hrun (fun p => if p = 0 then b0 else if p = 1 then b1 else b2) (fun p => if p = 0 then o0 else if p = 1 then o1 else o2) (fun i => (xs ++ ys).getD i 0) w (by decide)
    (Rel.start hsz (by simpa using h2) ?_ (bd2 hm hm' hx hy) ?_) (WRel.start (by decide) (mem2 hm hm' hheld1 hheld2) ?_ hfree)).mono ?_
  · intro t v h
    simp only [List.mem_cons, List.not_mem_nil, or_false, Prod.mk.injEq] at h
    rcases h with ⟨rfl, rfl⟩ | ⟨rfl, rfl⟩ | ⟨rfl, rfl⟩ | ⟨rfl, rfl⟩ <;> exact ⟨by simp, rfl, by simp [SV.lt, Src.lt]⟩
  · intro p q k' s h
    rcases List.mem_append.1 h with h | h
    · obtain ⟨rfl, h2, rfl, rfl⟩ := memOf_mem h
      exact ⟨by simp [Src.lt]; omega, by decide⟩
    · obtain ⟨rfl, h2, rfl, rfl⟩ := memOf_mem h
      exact ⟨by simp [Src.lt]; omega, by decide⟩
  · intro p hp
    show (if p = 0 then b0 else if p = 1 then b1 else b2) < _
    split
    · exact hb0
    · split
      · exact hb1
      · exact hb2
  · rintro e w' ⟨h1, h2, ρ', h3, h4, h5, st', h6, h7⟩
    exact ⟨h1, h2, ρ', fun i hi => (h3 i (by show i < m + m; omega)).trans (getD_app0 hm hi), fun i hi => (h3 (m + i) (by show m + i < m + m; omega)).trans (getD_app1 hm), h4, h5, st', h6, h7⟩
end
end Go.Proofs.Ytgdjmgcolipcnaa
