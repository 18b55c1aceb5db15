/-
  What is proved here: the engine's steps that turn memory, its regions and its code. No program in sight.
  Conditions: those of each theorem.
-/
import Derived.Test.YtblhnmahkabmiaaEng
namespace Go.Proofs.Ytblhnmahkabmiaa
open Go Go.RowKit
set_option linter.unusedSimpArgs false
set_option linter.unusedVariables false

/-- What more the program must say: of stores, of new words, of the conditional move. -/
structure EngM (P : Program) (D : EngD) : Prop extends EngS P D where
  fol : P.follows .mixedOrders = true
  hstore : ∀ t k, D.word t = some k → ∀ (ad : Addr) (x : Int) (u : Value) (w : World), w.cell? ad = some u → w.frozen? ad = false → (Instr.storeAt t (.pointer (some ad)) (.int k x)).run P w = .ok () (w.setCell ad (.int k x))
  halloc : ∀ t, D.word t = some .u64 → ∀ w : World, (Instr.alloc t true (.tuple #[])).run P w = .ok (.pointer (some ⟨w.heap.size, 0, none⟩)) (w.alloc (.cells #[.int .u64 0] t))
  ecmov : D.cm = true → ∀ args w, (callFunc D.fcmov args).run P w = .ok (.enter D.fcmov args) w
  hcmov : D.cm = true → ∀ (ad : Addr) (b x y : Int) (u : Value) (w : World), (b = 0 ∨ b = 1) → 0 ≤ x → x < 18446744073709551616 → 0 ≤ y → y < 18446744073709551616 → w.cell? ad = some u → w.frozen? ad = false →
    Calls P D.fcmov #[.pointer (some ad), .int .u64 b, .int .u64 x, .int .u64 y] w fun e w' => e = .returned (.tuple #[]) ∧ w' = w.setCell ad (.int .u64 (if b = 0 then x else y))

/-- Memory: parameters' blocks (np0 of them; the first one is written, olen cells from its place on), and the words of the call's own. -/
structure WRel (β γ : Nat → Nat) (ρ : Nat → Int) (np0 olen : Nat) (w0 : World) (st : St) (w : World) : Prop where
  mem : MemOk β γ ρ st w
  np : np0 ≤ st.np
  pos : 0 < np0
  par : ∀ p, p < np0 → β p < w0.heap.size
  loc : ∀ p, np0 ≤ p → p < st.np → w0.heap.size ≤ β p ∧ β p < w.heap.size ∧ γ p = 0 ∧ (∃ u, w.cell? ⟨β p, 0, none⟩ = some u) ∧ w.frozen? ⟨β p, 0, none⟩ = false
  inj : ∀ p q, np0 ≤ p → p < st.np → np0 ≤ q → q < st.np → β p = β q → p = q
  out : ∀ i, i < olen → (∃ u, w.cell? ⟨β 0, γ 0 + i, none⟩ = some u) ∧ w.frozen? ⟨β 0, γ 0 + i, none⟩ = false
  away : Away (β 0) w0 w
  keep : ∀ i, (∀ j, j < olen → i ≠ γ 0 + j) → w.cell? ⟨β 0, i, none⟩ = w0.cell? ⟨β 0, i, none⟩
  frz : ∀ i, w.frozen? ⟨β 0, i, none⟩ = w0.frozen? ⟨β 0, i, none⟩

abbrev MemL := List ((Nat × Nat) × (IntKind × Src))
/-- What is still known of memory behind a store into the out parameter, or into a word of the call's own. -/
def keepOut (np0 q : Nat) : MemL → MemL
  | [] => []
  | ((p, o), v) :: l => if (Nat.beq p 0 && !Nat.beq o q) || Nat.ble np0 p then ((p, o), v) :: keepOut np0 q l else keepOut np0 q l
def keepLoc (r : Nat) : MemL → MemL
  | [] => []
  | ((p, o), v) :: l => if Nat.beq p r then keepLoc r l else ((p, o), v) :: keepLoc r l

theorem lookM_keepOut {np0 q : Nat} : ∀ {l : MemL} {p o : Nat} {v : IntKind × Src}, lookM (keepOut np0 q l) p o = some v → ((p = 0 ∧ o ≠ q) ∨ np0 ≤ p) ∧ lookM l p o = some v := by
  intro l
  induction l with
  | nil => intro p o v h; simp [keepOut, lookM] at h
  | cons x l ih =>
    obtain ⟨⟨p', o'⟩, v'⟩ := x
    intro p o v h
    simp only [keepOut] at h
    split at h
    · rename_i hk
      simp only [lookM] at h ⊢
      split at h
      · rename_i he
        rw [if_pos he]
        simp only [Bool.and_eq_true] at he
        have e1 := Nat.eq_of_beq_eq_true he.1
        have e2 := Nat.eq_of_beq_eq_true he.2
        subst e1 e2
        refine ⟨?_, h⟩
        simp only [Bool.or_eq_true, Bool.and_eq_true, Bool.not_eq_true'] at hk
        rcases hk with ⟨h1, h2⟩ | h1
        · exact .inl ⟨Nat.eq_of_beq_eq_true h1, fun e => by rw [e, Nat.beq_refl] at h2; cases h2⟩
        · exact .inr (Nat.le_of_ble_eq_true h1)
      · rename_i he
        rw [if_neg he]
        exact ih h
    · rename_i hk
      obtain ⟨h1, h2⟩ := ih h
      refine ⟨h1, ?_⟩
      simp only [lookM]
      split
      · rename_i he
        exfalso
        apply hk
        simp only [Bool.and_eq_true] at he
        have e1 := Nat.eq_of_beq_eq_true he.1
        have e2 := Nat.eq_of_beq_eq_true he.2
        subst e1 e2
        simp only [Bool.or_eq_true, Bool.and_eq_true, Bool.not_eq_true']
        rcases h1 with ⟨h3, h4⟩ | h3
        · left
          subst h3
          refine ⟨rfl, ?_⟩
          cases hb : Nat.beq o' q with
          | false => rfl
          | true => exact absurd (Nat.eq_of_beq_eq_true hb) h4
        · right; exact Nat.ble_eq_true_of_le h3
      · exact h2
theorem lookM_keepLoc {r : Nat} : ∀ {l : MemL} {p o : Nat} {v : IntKind × Src}, lookM (keepLoc r l) p o = some v → p ≠ r ∧ lookM l p o = some v := by
  intro l
  induction l with
  | nil => intro p o v h; simp [keepLoc, lookM] at h
  | cons x l ih =>
    obtain ⟨⟨p', o'⟩, v'⟩ := x
    intro p o v h
    simp only [keepLoc] at h
    split at h
    · rename_i hk
      have e := Nat.eq_of_beq_eq_true hk
      subst e
      obtain ⟨h1, h2⟩ := ih h
      refine ⟨h1, ?_⟩
      simp only [lookM]
      rw [if_neg]
      · exact h2
      · simp only [Bool.and_eq_true]
        exact fun he => h1 (Nat.eq_of_beq_eq_true he.1).symm
    · rename_i hk
      simp only [lookM] at h ⊢
      split at h
      · rename_i he
        rw [if_pos he]
        simp only [Bool.and_eq_true] at he
        refine ⟨fun e => hk ?_, h⟩
        rw [← e]; exact he.1
      · rename_i he
        rw [if_neg he]
        exact ih h

/-- One operation that turns memory. -/
def stepS (D : EngD) (np0 olen : Nat) (st : St) (o : Oper) : Option St :=
  match o.guard, o.dst, o.op with
  | none, none, .store t x y => match opnd st x, opnd st y, D.word t with
    | some (.ptr p q), some (.num k s), some k' =>
      if decide (k = k') then
        (if Nat.beq p 0 then (if decide (q < olen) then some { st with mem := ((0, q), (k, s)) :: keepOut np0 q st.mem } else none)
        else if Nat.ble np0 p && Nat.beq q 0 then some { st with mem := ((p, 0), (k, s)) :: keepLoc p st.mem } else none)
      else none
    | _, _, _ => none
  | none, some d, .alloc t => match D.word t with
    | some .u64 => if decide (d < st.size) then some { st with np := st.np + 1, env := (d, .ptr st.np 0) :: st.env, mem := ((st.np, 0), (.u64, .c 0)) :: st.mem } else none
    | _ => none
  | none, some d, .call c => match c.callee with
    | .value (.func f) => match c.args.toList.map (opnd st) with
      | [some (.ptr p 0), some (.num .u64 b), some (.num .u64 x), some (.num .u64 y)] =>
        if D.cm && Nat.beq f D.fcmov && Nat.ble np0 p && bitOk st b && srcOk x && srcOk y && (lookE st.env d).isNone then
          some { st with n := st.n + 1, defs := .cmov b x y :: st.defs, mem := ((p, 0), (.u64, .v st.n)) :: keepLoc p st.mem }
        else none
      | _ => none
    | _ => none
  | _, _, _ => none

theorem Away.setCell_new {b c : Nat} {u w : World} (h : Away b u w) (hc : u.heap.size ≤ c) (o : Nat) (v : Value) : Away b u (w.setCell ⟨c, o, none⟩ v) :=
  ⟨h.1, h.2.1, h.2.2.1, by simpa [World.setCell] using h.2.2.2.1, fun i hi hb => by
    rw [← h.2.2.2.2 i hi hb]
    have : c ≠ i := by omega
    simp [World.setCell, Array.getElem?_modify, this]⟩
theorem Away.alloc {b : Nat} {u w : World} (h : Away b u w) (o : Obj) : Away b u (w.alloc o) :=
  ⟨h.1, h.2.1, h.2.2.1, by have := h.2.2.2.1; simp; omega, fun i hi hb => by
    rw [heap_past _ _ _ (Nat.lt_of_lt_of_le hi h.2.2.2.1)]; exact h.2.2.2.2 i hi hb⟩

section
variable {P : Program} {D : EngD} {β γ : Nat → Nat} {ρ : Nat → Int} {st : St} {a : Act} {o : Oper} {np0 olen : Nat} {w0 w : World}

/-- A store into the out parameter. -/
theorem wrel_out (R : Rel β γ ρ st a) (W : WRel β γ ρ np0 olen w0 st w) {q : Nat} (hq : q < olen) {k : IntKind} {s : Src} (hs : s.lt st.n) :
    Rel β γ ρ { st with mem := ((0, q), (k, s)) :: keepOut np0 q st.mem } a ∧
    WRel β γ ρ np0 olen w0 { st with mem := ((0, q), (k, s)) :: keepOut np0 q st.mem } (w.setCell ⟨β 0, γ 0 + q, none⟩ (.int k (den ρ s))) := by
  have hz : 0 < st.np := Nat.lt_of_lt_of_le W.pos W.np
  obtain ⟨u, hu⟩ := (W.out q hq).1
  have hsome : (w.cell? ⟨β 0, γ 0 + q, none⟩).isSome = true := by rw [hu]; rfl
  refine ⟨⟨R.size, R.env, R.bound, R.defs, ?_, R.dfr⟩, ⟨?_, W.np, W.pos, W.par, ?_, W.inj, ?_, W.away.setCell _ _, ?_, ?_⟩⟩
  · intro p o k' s' h
    simp only [lookM] at h
    split at h
    · rename_i he
      simp only [Bool.and_eq_true] at he
      obtain ⟨rfl, rfl⟩ := Prod.mk.inj (Option.some.inj h)
      exact ⟨hs, (Nat.eq_of_beq_eq_true he.1) ▸ hz⟩
    · exact R.lts p o k' s' (lookM_keepOut h).2
  · intro p o k' s' h
    simp only [lookM] at h
    split at h
    · rename_i he
      simp only [Bool.and_eq_true] at he
      have e1 := Nat.eq_of_beq_eq_true he.1
      have e2 := Nat.eq_of_beq_eq_true he.2
      subst e1 e2
      obtain ⟨rfl, rfl⟩ := Prod.mk.inj (Option.some.inj h)
      rw [cell_set _ _ _ _ _ hsome, if_pos rfl]
    · obtain ⟨h1, h2⟩ := lookM_keepOut h
      have h3 := W.mem p o k' s' h2
      rcases h1 with ⟨rfl, hne⟩ | hp
      · rw [cell_set _ _ _ _ _ hsome, if_neg (by omega)]
        exact h3
      · have := (W.loc p hp (R.lts p o k' s' h2).2).1
        have := W.par 0 W.pos
        rw [cell_far (by omega)]
        exact h3
  · intro p h1 h2
    obtain ⟨k1, k2, k3, ⟨u', k4⟩, k5⟩ := W.loc p h1 h2
    refine ⟨k1, by simpa [World.setCell] using k2, k3, ?_, by simpa using k5⟩
    have := W.par 0 W.pos
    exact ⟨u', by rw [cell_far (by omega)]; exact k4⟩
  · intro i hi
    refine ⟨?_, by simpa using (W.out i hi).2⟩
    obtain ⟨u', hu'⟩ := (W.out i hi).1
    rw [cell_set _ _ _ _ _ hsome]
    split
    · exact ⟨_, rfl⟩
    · exact ⟨u', hu'⟩
  · intro i hi
    rw [cell_set _ _ _ _ _ hsome, if_neg (fun e => hi q hq e.symm)]
    exact W.keep i hi
  · intro i
    rw [World.frozen?_setCell]
    exact W.frz i

/-- A store into a word of the call's own. -/
theorem wrel_loc (R : Rel β γ ρ st a) (W : WRel β γ ρ np0 olen w0 st w) {p : Nat} (hp : np0 ≤ p) (hp' : p < st.np) {k : IntKind} {s : Src} (hs : s.lt st.n) :
    Rel β γ ρ { st with mem := ((p, 0), (k, s)) :: keepLoc p st.mem } a ∧
    WRel β γ ρ np0 olen w0 { st with mem := ((p, 0), (k, s)) :: keepLoc p st.mem } (w.setCell ⟨β p, γ p + 0, none⟩ (.int k (den ρ s))) := by
  obtain ⟨l1, l2, l3, ⟨u, l4⟩, l5⟩ := W.loc p hp hp'
  have hsome : (w.cell? ⟨β p, γ p + 0, none⟩).isSome = true := by rw [l3, Nat.zero_add, l4]; rfl
  have hb0 := W.par 0 W.pos
  refine ⟨⟨R.size, R.env, R.bound, R.defs, ?_, R.dfr⟩, ⟨?_, W.np, W.pos, W.par, ?_, W.inj, ?_, W.away.setCell_new l1 _ _, ?_, ?_⟩⟩
  · intro p' o k' s' h
    simp only [lookM] at h
    split at h
    · rename_i he
      simp only [Bool.and_eq_true] at he
      obtain ⟨rfl, rfl⟩ := Prod.mk.inj (Option.some.inj h)
      exact ⟨hs, (Nat.eq_of_beq_eq_true he.1) ▸ hp'⟩
    · exact R.lts p' o k' s' (lookM_keepLoc h).2
  · intro p' o k' s' h
    simp only [lookM] at h
    split at h
    · rename_i he
      simp only [Bool.and_eq_true] at he
      have e1 := Nat.eq_of_beq_eq_true he.1
      have e2 := Nat.eq_of_beq_eq_true he.2
      subst e1 e2
      obtain ⟨rfl, rfl⟩ := Prod.mk.inj (Option.some.inj h)
      rw [cell_set _ _ _ _ _ hsome, if_pos rfl]
    · obtain ⟨h1, h2⟩ := lookM_keepLoc h
      have h3 := W.mem p' o k' s' h2
      have hlt := (R.lts p' o k' s' h2).2
      have hne : ¬ β p = β p' := by
        intro e
        rcases Nat.lt_or_ge p' np0 with h4 | h4
        · have := W.par p' h4; omega
        · exact h1 (W.inj p p' hp hp' h4 hlt e).symm
      rw [cell_far hne]
      exact h3
  · intro p' h1 h2
    obtain ⟨k1, k2, k3, ⟨u', k4⟩, k5⟩ := W.loc p' h1 h2
    refine ⟨k1, by simpa [World.setCell] using k2, k3, ?_, by simpa using k5⟩
    exact Option.isSome_iff_exists.1 (by rw [cell_set_isSome, k4]; rfl)
  · intro i hi
    refine ⟨?_, by simpa using (W.out i hi).2⟩
    obtain ⟨u', hu'⟩ := (W.out i hi).1
    exact ⟨u', by rw [cell_far (by omega)]; exact hu'⟩
  · intro i hi
    rw [cell_far (by omega)]
    exact W.keep i hi
  · intro i
    rw [World.frozen?_setCell]
    exact W.frz i
end
end Go.Proofs.Ytblhnmahkabmiaa
