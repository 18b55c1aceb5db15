/-
  What is proved here: the engine's steps that turn memory, its regions and its code. No program in sight.
  Conditions: those of each theorem.
-/
import Derived.Test.YtgdjmgcolipcnaaEng
namespace Go.Proofs.Ytgdjmgcolipcnaa
open Go Go.RowKit
set_option linter.unusedSimpArgs false
set_option linter.unusedVariables false

/-- What more the program must say: of stores, of new words, of the conditional move. -/
structure EngM (P : Program) (D : EngD) : Prop extends EngS P D where
  fol : P.follows .mixedOrders = true
  hstore : ∀ t k, D.word t = some k → ∀ (ad : Addr) (x : Int) (u : Value) (w : World), w.cell? ad = some u → w.frozen? ad = false → (Instr.storeAt t (.pointer (some ad)) (.int k x)).run P w = .ok () (w.setCell ad (.int k x))
  halloc : ∀ t, D.word t = some .u64 → ∀ w : World, (Instr.alloc t true (.tuple #[])).run P w = .ok (.pointer (some ⟨w.heap.size, 0, none⟩)) (w.alloc (.cells #[.int .u64 0] t))
  ecmov : D.cm = true → ∀ args w, (callFunc D.fcmov args).run P w = .ok (.enter D.fcmov args) w
  hcmov : D.cm = true → ∀ (ad : Addr) (b x y : Int) (u : Value) (w : World), (b = 0 ∨ b = 1) → 0 ≤ x → x < 18446744073709551616 → 0 ≤ y → y < 18446744073709551616 → w.cell? ad = some u → w.frozen? ad = false →
    Calls P D.fcmov #[.pointer (some ad), .int .u64 b, .int .u64 x, .int .u64 y] w fun e w' => e = .returned (.tuple #[]) ∧ w' = w.setCell ad (.int .u64 (if b = 0 then x else y))

/-- Memory: parameters' blocks (np0 of them; the first one is written, olen cells from its place on), and the words of the call's own. -/
structure WRel (β γ : Nat → Nat) (ρ : Nat → Int) (np0 olen : Nat) (w0 : World) (st : St) (w : World) : Prop where
  mem : MemOk β γ ρ st w
  np : np0 ≤ st.np
  pos : 0 < np0
  par : ∀ p, p < np0 → β p < w0.heap.size
  loc : ∀ p, np0 ≤ p → p < st.np → w0.heap.size ≤ β p ∧ β p < w.heap.size ∧ γ p = 0 ∧ (∃ u, w.cell? ⟨β p, 0, none⟩ = some u) ∧ w.frozen? ⟨β p, 0, none⟩ = false
  inj : ∀ p q, np0 ≤ p → p < st.np → np0 ≤ q → q < st.np → β p = β q → p = q
  out : ∀ i, i < olen → (∃ u, w.cell? ⟨β 0, γ 0 + i, none⟩ = some u) ∧ w.frozen? ⟨β 0, γ 0 + i, none⟩ = false
  away : Away (β 0) w0 w
  keep : ∀ i, (∀ j, j < olen → i ≠ γ 0 + j) → w.cell? ⟨β 0, i, none⟩ = w0.cell? ⟨β 0, i, none⟩
  frz : ∀ i, w.frozen? ⟨β 0, i, none⟩ = w0.frozen? ⟨β 0, i, none⟩

abbrev MemL := List ((Nat × Nat) × (IntKind × Src))
/-- What is still known of memory behind a store into the out parameter, or into a word of the call's own. -/
def keepOut (np0 q : Nat) : MemL → MemL
  | [] => []
  | ((p, o), v) :: l => if (Nat.beq p 0 && !Nat.beq o q) || Nat.ble np0 p then ((p, o), v) :: keepOut np0 q l else keepOut np0 q l
def keepLoc (r : Nat) : MemL → MemL
  | [] => []
  | ((p, o), v) :: l => if Nat.beq p r then keepLoc r l else ((p, o), v) :: keepLoc r l

theorem lookM_keepOut {np0 q : Nat} : ∀ {l : MemL} {p o : Nat} {v : IntKind × Src}, lookM (keepOut np0 q l) p o = some v → ((p = 0 ∧ o ≠ q) ∨ np0 ≤ p) ∧ lookM l p o = some v := by
  intro l
  induction l with
  | nil => intro p o v h; simp [keepOut, lookM] at h
  | cons x l ih =>
    obtain ⟨⟨p', o'⟩, v'⟩ := x
    intro p o v h
    simp only [keepOut] at h
    split at h
    · rename_i hk
      simp only [lookM] at h ⊢
      split at h
      · rename_i he
        rw [if_pos he]
        simp only [Bool.and_eq_true] at he
        have e1 := Nat.eq_of_beq_eq_true he.1
        have e2 := Nat.eq_of_beq_eq_true he.2
        subst e1 e2
        refine ⟨?_, h⟩
        simp only [Bool.or_eq_true, Bool.and_eq_true, Bool.not_eq_true'] at hk
        rcases hk with ⟨h1, h2⟩ | h1
        · exact .inl ⟨Nat.eq_of_beq_eq_true h1, fun e => by rw [e, Nat.beq_refl] at h2; cases h2⟩
        · exact .inr (Nat.le_of_ble_eq_true h1)
      · rename_i he
        rw [if_neg he]
        exact ih h
    · rename_i hk
      obtain ⟨h1, h2⟩ := ih h
      refine ⟨h1, ?_⟩
      simp only [lookM]
      split
      · rename_i he
        exfalso
        apply hk
        simp only [Bool.and_eq_true] at he
        have e1 := Nat.eq_of_beq_eq_true he.1
        have e2 := Nat.eq_of_beq_eq_true he.2
        subst e1 e2
        simp only [Bool.or_eq_true, Bool.and_eq_true, Bool.not_eq_true']
        rcases h1 with ⟨h3, h4⟩ | h3
        · left
          subst h3
          refine ⟨rfl, ?_⟩
          cases hb : Nat.beq o' q with
          | false => rfl
          | true => exact absurd (Nat.eq_of_beq_eq_true hb) h4
        · right; exact Nat.ble_eq_true_of_le h3
      · exact h2
theorem lookM_keepLoc {r : Nat} : ∀ {l : MemL} {p o : Nat} {v : IntKind × Src}, lookM (keepLoc r l) p o = some v → p ≠ r ∧ lookM l p o = some v := by
  intro l
  induction l with
  | nil => intro p o v h; simp [keepLoc, lookM] at h
  | cons x l ih =>
    obtain ⟨⟨p', o'⟩, v'⟩ := x
    intro p o v h
    simp only [keepLoc] at h
    split at h
    · rename_i hk
      have e := Nat.eq_of_beq_eq_true hk
      subst e
      obtain ⟨h1, h2⟩ := ih h
      refine ⟨h1, ?_⟩
      simp only [lookM]
      rw [if_neg]
      · exact h2
      · simp only [Bool.and_eq_true]
        exact fun he => h1 (Nat.eq_of_beq_eq_true he.1).symm
    · rename_i hk
      simp only [lookM] at h ⊢
      split at h
      · rename_i he
        rw [if_pos he]
        simp only [Bool.and_eq_true] at he
        refine ⟨fun e => hk ?_, h⟩
        rw [← e]; exact he.1
      · rename_i he
        rw [if_neg he]
        exact ih h

/-- One operation that turns memory. -/
def stepS (D : EngD) (np0 olen : Nat) (st : St) (o : Oper) : Option St :=
  match o.guard, o.dst, o.op with
  | none, none, .store t x y => match opnd st x, opnd st y, D.word t with
    | some (.ptr p q), some (.num k s), some k' =>
      if decide (k = k') then
        (if Nat.beq p 0 then (if decide (q < olen) then some { st with mem := ((0, q), (k, s)) :: keepOut np0 q st.mem } else none)
        else if Nat.ble np0 p && Nat.beq q 0 then some { st with mem := ((p, 0), (k, s)) :: keepLoc p st.mem } else none)
      else none
    | _, _, _ => none
  | none, some d, .alloc t => match D.word t with
    | some .u64 => if decide (d < st.size) then some { st with np := st.np + 1, env := (d, .ptr st.np 0) :: st.env, mem := ((st.np, 0), (.u64, .c 0)) :: st.mem } else none
    | _ => none
  | none, some d, .call c => match c.callee with
    | .value (.func f) => match c.args.toList.map (opnd st) with
      | [some (.ptr p 0), some (.num .u64 b), some (.num .u64 x), some (.num .u64 y)] =>
        if D.cm && Nat.beq f D.fcmov && Nat.ble np0 p && bitOk st b && srcOk x && srcOk y && (lookE st.env d).isNone then
          some { st with n := st.n + 1, defs := .cmov b x y :: st.defs, mem := ((p, 0), (.u64, .v st.n)) :: keepLoc p st.mem }
        else none
      | _ => none
    | _ => none
  | _, _, _ => none

theorem Away.setCell_new {b c : Nat} {u w : World} (h : Away b u w) (hc : u.heap.size ≤ c) (o : Nat) (v : Value) : Away b u (w.setCell ⟨c, o, none⟩ v) :=
  ⟨h.1, h.2.1, h.2.2.1, by simpa [World.setCell] using h.2.2.2.1, fun i hi hb => by
    rw [← h.2.2.2.2 i hi hb]
    have : c ≠ i := by omega
    simp [World.setCell, Array.getElem?_modify, this]⟩
theorem Away.alloc {b : Nat} {u w : World} (h : Away b u w) (o : Obj) : Away b u (w.alloc o) :=
  ⟨h.1, h.2.1, h.2.2.1, by have := h.2.2.2.1; simp; omega, fun i hi hb => by
    rw [heap_past _ _ _ (Nat.lt_of_lt_of_le hi h.2.2.2.1)]; exact h.2.2.2.2 i hi hb⟩

section
variable {P : Program} {D : EngD} {β γ : Nat → Nat} {ρ : Nat → Int} {st : St} {a : Act} {o : Oper} {np0 olen : Nat} {w0 w : World}

/-- A store into the out parameter. -/
theorem wrel_out (R : Rel β γ ρ st a) (W : WRel β γ ρ np0 olen w0 st w) {q : Nat} (hq : q < olen) {k : IntKind} {s : Src} (hs : s.lt st.n) :
    Rel β γ ρ { st with mem := ((0, q), (k, s)) :: keepOut np0 q st.mem } a ∧
    WRel β γ ρ np0 olen w0 { st with mem := ((0, q), (k, s)) :: keepOut np0 q st.mem } (w.setCell ⟨β 0, γ 0 + q, none⟩ (.int k (den ρ s))) := by
  have hz : 0 < st.np := Nat.lt_of_lt_of_le W.pos W.np
  obtain ⟨u, hu⟩ := (W.out q hq).1
  have hsome : (w.cell? ⟨β 0, γ 0 + q, none⟩).isSome = true := by rw [hu]; rfl
  refine ⟨⟨R.size, R.env, R.bound, R.defs, ?_, R.dfr⟩, ⟨?_, W.np, W.pos, W.par, ?_, W.inj, ?_, W.away.setCell _ _, ?_, ?_⟩⟩
  · intro p o k' s' h
    simp only [lookM] at h
    split at h
    · rename_i he
      simp only [Bool.and_eq_true] at he
      obtain ⟨rfl, rfl⟩ := Prod.mk.inj (Option.some.inj h)
      exact ⟨hs, (Nat.eq_of_beq_eq_true he.1) ▸ hz⟩
    · exact R.lts p o k' s' (lookM_keepOut h).2
  · intro p o k' s' h
    simp only [lookM] at h
    split at h
    · rename_i he
      simp only [Bool.and_eq_true] at he
      have e1 := Nat.eq_of_beq_eq_true he.1
      have e2 := Nat.eq_of_beq_eq_true he.2
      subst e1 e2
      obtain ⟨rfl, rfl⟩ := Prod.mk.inj (Option.some.inj h)
      rw [cell_set _ _ _ _ _ hsome, if_pos rfl]
    · obtain ⟨h1, h2⟩ := lookM_keepOut h
      have h3 := W.mem p o k' s' h2
      rcases h1 with ⟨rfl, hne⟩ | hp
      · rw [cell_set _ _ _ _ _ hsome, if_neg (by omega)]
        exact h3
      · have := (W.loc p hp (R.lts p o k' s' h2).2).1
        have := W.par 0 W.pos
        rw [cell_far (by omega)]
        exact h3
  · intro p h1 h2
    obtain ⟨k1, k2, k3, ⟨u', k4⟩, k5⟩ := W.loc p h1 h2
    refine ⟨k1, by simpa [World.setCell] using k2, k3, ?_, by simpa using k5⟩
    have := W.par 0 W.pos
    exact ⟨u', by rw [cell_far (by omega)]; exact k4⟩
  · intro i hi
    refine ⟨?_, by simpa using (W.out i hi).2⟩
    obtain ⟨u', hu'⟩ := (W.out i hi).1
    rw [cell_set _ _ _ _ _ hsome]
    split
    · exact ⟨_, rfl⟩
    · exact ⟨u', hu'⟩
  · intro i hi
    rw [cell_set _ _ _ _ _ hsome, if_neg (fun e => hi q hq e.symm)]
    exact W.keep i hi
  · intro i
    rw [World.frozen?_setCell]
    exact W.frz i

/-- A store into a word of the call's own. -/
theorem wrel_loc (R : Rel β γ ρ st a) (W : WRel β γ ρ np0 olen w0 st w) {p : Nat} (hp : np0 ≤ p) (hp' : p < st.np) {k : IntKind} {s : Src} (hs : s.lt st.n) :
    Rel β γ ρ { st with mem := ((p, 0), (k, s)) :: keepLoc p st.mem } a ∧
    WRel β γ ρ np0 olen w0 { st with mem := ((p, 0), (k, s)) :: keepLoc p st.mem } (w.setCell ⟨β p, γ p + 0, none⟩ (.int k (den ρ s))) := by
  obtain ⟨l1, l2, l3, ⟨u, l4⟩, l5⟩ := W.loc p hp hp'
  have hsome : (w.cell? ⟨β p, γ p + 0, none⟩).isSome = true := by rw [l3, Nat.zero_add, l4]; rfl
  have hb0 := W.par 0 W.pos
  refine ⟨⟨R.size, R.env, R.bound, R.defs, ?_, R.dfr⟩, ⟨?_, W.np, W.pos, W.par, ?_, W.inj, ?_, W.away.setCell_new l1 _ _, ?_, ?_⟩⟩
  · intro p' o k' s' h
    simp only [lookM] at h
    split at h
    · rename_i he
      simp only [Bool.and_eq_true] at he
      obtain ⟨rfl, rfl⟩ := Prod.mk.inj (Option.some.inj h)
      exact ⟨hs, (Nat.eq_of_beq_eq_true he.1) ▸ hp'⟩
    · exact R.lts p' o k' s' (lookM_keepLoc h).2
  · intro p' o k' s' h
    simp only [lookM] at h
    split at h
    · rename_i he
      simp only [Bool.and_eq_true] at he
      have e1 := Nat.eq_of_beq_eq_true he.1
      have e2 := Nat.eq_of_beq_eq_true he.2
      subst e1 e2
      obtain ⟨rfl, rfl⟩ := Prod.mk.inj (Option.some.inj h)
      rw [cell_set _ _ _ _ _ hsome, if_pos rfl]
    · obtain ⟨h1, h2⟩ := lookM_keepLoc h
      have h3 := W.mem p' o k' s' h2
      have hlt := (R.lts p' o k' s' h2).2
      have hne : ¬ β p = β p' := by
        intro e
        rcases Nat.lt_or_ge p' np0 with h4 | h4
        · have := W.par p' h4; omega
        · exact h1 (W.inj p p' hp hp' h4 hlt e).symm
      rw [cell_far hne]
      exact h3
  · intro p' h1 h2
    obtain ⟨k1, k2, k3, ⟨u', k4⟩, k5⟩ := W.loc p' h1 h2
    refine ⟨k1, by simpa [World.setCell] using k2, k3, ?_, by simpa using k5⟩
    exact Option.isSome_iff_exists.1 (by rw [cell_set_isSome, k4]; rfl)
  · intro i hi
    refine ⟨?_, by simpa using (W.out i hi).2⟩
    obtain ⟨u', hu'⟩ := (W.out i hi).1
    exact ⟨u', by rw [cell_far (by omega)]; exact hu'⟩
  · intro i hi
    rw [cell_far (by omega)]
    exact W.keep i hi
  · intro i
    rw [World.frozen?_setCell]
    exact W.frz i
end
end Go.Proofs.Ytgdjmgcolipcnaa
/-
  What is proved here: the engine's code, whole. No program in sight.
  Conditions: those of each theorem.
-/
namespace Go.Proofs.Ytgdjmgcolipcnaa
open Go Go.RowKit
set_option linter.unusedSimpArgs false
set_option linter.unusedVariables false

def updN (f : Nat → Nat) (n x : Nat) : Nat → Nat := fun i => if i = n then x else f i
theorem updN_at (f : Nat → Nat) (n x : Nat) : updN f n x n = x := if_pos rfl
theorem updN_off (f : Nat → Nat) (n i x : Nat) (h : i ≠ n) : updN f n x i = f i := if_neg h

section
variable {P : Program} {D : EngD} {β γ : Nat → Nat} {ρ : Nat → Int} {st : St} {a : Act} {o : Oper} {np0 olen : Nat} {w0 w : World}

theorem val_updN {sv : SV} {n m x y : Nat} (h : sv.lt n m) : sv.val (updN β m x) (updN γ m y) ρ = sv.val β γ ρ := by
  cases sv with
  | num k s => rfl
  | pair a b => rfl
  | ptr p o =>
    have : p ≠ m := Nat.ne_of_lt h
    simp only [SV.val, updN_off _ _ _ _ this]

/-- A new word. -/
theorem wrel_alloc (R : Rel β γ ρ st a) (W : WRel β γ ρ np0 olen w0 st w) {d : Nat} (hd : d < st.size) (t : TypeId) :
    Rel (updN β st.np w.heap.size) (updN γ st.np 0) ρ { st with np := st.np + 1, env := (d, .ptr st.np 0) :: st.env, mem := ((st.np, 0), (.u64, .c 0)) :: st.mem } (a.put (some d) (.pointer (some ⟨w.heap.size, 0, none⟩))) ∧
    WRel (updN β st.np w.heap.size) (updN γ st.np 0) ρ np0 olen w0 { st with np := st.np + 1, env := (d, .ptr st.np 0) :: st.env, mem := ((st.np, 0), (.u64, .c 0)) :: st.mem } (w.alloc (.cells #[.int .u64 0] t)) := by
  have hsz : d < a.tmps.size := by rw [R.size]; exact hd
  have hw0 : w0.heap.size ≤ w.heap.size := W.away.2.2.2.1
  have hnp := W.np
  have hpos := W.pos
  have hb0 := W.par 0 W.pos
  have b0 : updN β st.np w.heap.size 0 = β 0 := updN_off _ _ _ _ (by omega)
  have g0 : updN γ st.np 0 0 = γ 0 := updN_off _ _ _ _ (by omega)
  refine ⟨⟨?_, ?_, R.bound, R.defs, ?_, R.dfr⟩, ⟨?_, by simp only; omega, W.pos, ?_, ?_, ?_, ?_, ?_, ?_, ?_⟩⟩
  · simp [Act.put, R.size]
  · intro t' sv' ht
    simp only [lookE] at ht
    split at ht
    · rename_i he
      obtain rfl : d = t' := Nat.eq_of_beq_eq_true he
      obtain rfl := Option.some.inj ht
      refine ⟨?_, Nat.lt_succ_self _⟩
      simp [Act.put, hsz, SV.val, updN_at]
    · rename_i he
      have hne : d ≠ t' := fun e => he (by rw [e]; exact Nat.beq_refl t')
      obtain ⟨k1, k2⟩ := R.env t' sv' ht
      refine ⟨?_, SV.lt_mono (Nat.le_refl _) (Nat.le_succ _) k2⟩
      rw [val_updN k2]
      simp only [Act.put]
      rw [Array.getElem?_setIfInBounds_ne hne]
      exact k1
  · intro p o' k s h
    simp only [lookM] at h
    split at h
    · rename_i he
      simp only [Bool.and_eq_true] at he
      obtain ⟨rfl, rfl⟩ := Prod.mk.inj (Option.some.inj h)
      exact ⟨trivial, (Nat.eq_of_beq_eq_true he.1) ▸ Nat.lt_succ_self _⟩
    · obtain ⟨k1, k2⟩ := R.lts p o' k s h
      exact ⟨k1, Nat.lt_succ_of_lt k2⟩
  · intro p o' k s h
    simp only [lookM] at h
    split at h
    · rename_i he
      simp only [Bool.and_eq_true] at he
      have e1 := Nat.eq_of_beq_eq_true he.1
      have e2 := Nat.eq_of_beq_eq_true he.2
      subst e1 e2
      obtain ⟨rfl, rfl⟩ := Prod.mk.inj (Option.some.inj h)
      rw [updN_at, updN_at, Nat.zero_add, World.cell?_alloc_new]
      rfl
    · have hlt := (R.lts p o' k s h).2
      have hne : p ≠ st.np := Nat.ne_of_lt hlt
      rw [updN_off _ _ _ _ hne, updN_off _ _ _ _ hne]
      have hbl : β p < w.heap.size := by
        rcases Nat.lt_or_ge p np0 with h4 | h4
        · have := W.par p h4; omega
        · exact (W.loc p h4 hlt).2.1
      rw [cell_al1 hbl]
      exact W.mem p o' k s h
  · intro p hp
    rw [updN_off _ _ _ _ (by omega)]
    exact W.par p hp
  · intro p h1 h2
    by_cases e : p = st.np
    · subst e
      rw [updN_at, updN_at]
      refine ⟨hw0, by simp, rfl, ⟨.int .u64 0, by rw [World.cell?_alloc_new]; rfl⟩, by simp⟩
    · have h2' : p < st.np := by simp only at h2; omega
      obtain ⟨k1, k2, k3, k4, k5⟩ := W.loc p h1 h2'
      rw [updN_off _ _ _ _ e, updN_off _ _ _ _ e]
      refine ⟨k1, by simp; omega, k3, ?_, ?_⟩
      · rw [cell_al1 k2]; exact k4
      · rw [World.frozen?_alloc_old]
        · exact k5
        · show β p ≠ w.heap.size
          omega
  · intro p q h1 h2 h3 h4 e
    simp only at h2 h4
    by_cases e1 : p = st.np <;> by_cases e2 : q = st.np
    · omega
    · subst e1
      rw [updN_at, updN_off _ _ _ _ e2] at e
      have := (W.loc q h3 (by omega)).2.1
      omega
    · subst e2
      rw [updN_at, updN_off _ _ _ _ e1] at e
      have := (W.loc p h1 (by omega)).2.1
      omega
    · rw [updN_off _ _ _ _ e1, updN_off _ _ _ _ e2] at e
      exact W.inj p q h1 (by omega) h3 (by omega) e
  · intro i hi
    rw [b0, g0, cell_al1 (by omega)]
    refine ⟨(W.out i hi).1, ?_⟩
    rw [World.frozen?_alloc_old]
    · exact (W.out i hi).2
    · show β 0 ≠ w.heap.size
      omega
  · rw [b0]; exact W.away.alloc _
  · intro i hi
    rw [g0] at hi
    rw [b0, cell_al1 (by omega)]
    exact W.keep i hi
  · intro i
    rw [b0, World.frozen?_alloc_old]
    · exact W.frz i
    · show β 0 ≠ w.heap.size
      omega

/-- Pure steps leave memory as it was. -/
theorem WRel.pure (W : WRel β γ ρ np0 olen w0 st w) {ρ' : Nat → Int} {st' : St} (hm : st'.mem = st.mem) (hn : st'.np = st.np) (hM : MemOk β γ ρ' st' w) : WRel β γ ρ' np0 olen w0 st' w :=
  ⟨hM, by rw [hn]; exact W.np, W.pos, W.par, fun p h1 h2 => W.loc p h1 (by rw [← hn]; exact h2), fun p q h1 h2 h3 h4 => W.inj p q h1 (by rw [← hn]; exact h2) h3 (by rw [← hn]; exact h4), W.out, W.away, W.keep, W.frz⟩
theorem WRel.drewN (W : WRel β γ ρ np0 olen w0 st w) (k : Nat) : WRel β γ ρ np0 olen w0 st (w.drewN k) :=
  ⟨W.mem, W.np, W.pos, W.par, W.loc, W.inj, W.out, W.away, W.keep, W.frz⟩

/-- What a step that may turn memory gives. -/
def Goes (β γ : Nat → Nat) (ρ : Nat → Int) (np0 olen : Nat) (w0 : World) (st st' : St) (next : Act → World → Prop) : Prop :=
  ∀ β' γ' ρ' a' w', (∀ p, p < np0 → β' p = β p ∧ γ' p = γ p) → Agree st.n ρ ρ' → Rel β' γ' ρ' st' a' → WRel β' γ' ρ' np0 olen w0 st' w' → next a' w'

theorem map4 {A B : Type} {f : A → B} {l : List A} {a b c d : B} (h : l.map f = [a, b, c, d]) : ∃ x y z u, l = [x, y, z, u] ∧ f x = a ∧ f y = b ∧ f z = c ∧ f u = d := by
  rcases l with _ | ⟨x, _ | ⟨y, _ | ⟨z, _ | ⟨u, _ | ⟨t, l⟩⟩⟩⟩⟩ <;> simp at h
  exact ⟨x, y, z, u, rfl, h.1, h.2.1, h.2.2.1, h.2.2.2⟩

theorem put_none (a : Act) (v : Value) : a.put none v = a := rfl

/-- The conditional move into a word of the call's own. -/
theorem rel_cmov (R : Rel β γ ρ st a) {d : Nat} {b x y : Src} (hb : b.lt st.n) (hx : x.lt st.n) (hy : y.lt st.n) (bx : 0 ≤ den ρ x ∧ den ρ x < 18446744073709551616) (by_ : 0 ≤ den ρ y ∧ den ρ y < 18446744073709551616)
    (hd : lookE st.env d = none) (v : Value) : ∃ ρ', Agree st.n ρ ρ' ∧ ρ' st.n = (if den ρ b = 0 then den ρ x else den ρ y) ∧ Rel β γ ρ' { st with n := st.n + 1, defs := .cmov b x y :: st.defs } (a.put (some d) v) := by
  have hA := upd_agree ρ st.n (if den ρ b = 0 then den ρ x else den ρ y)
  have hv : upd ρ st.n (if den ρ b = 0 then den ρ x else den ρ y) st.n = (if den ρ b = 0 then den ρ x else den ρ y) := upd_at ..
  generalize upd ρ st.n (if den ρ b = 0 then den ρ x else den ρ y) = ρ' at hA hv
  refine ⟨ρ', hA, hv, ⟨?_, ?_, ?_, ?_, ?_, R.dfr⟩⟩
  · simp [Act.put, R.size]
  · intro t sv ht
    have hne : d ≠ t := by rintro rfl; rw [hd] at ht; cases ht
    obtain ⟨k1, k2⟩ := R.env t sv ht
    refine ⟨?_, SV.lt_mono (Nat.le_succ _) (Nat.le_refl _) k2⟩
    rw [hA.val k2]
    simp only [Act.put]
    rw [Array.getElem?_setIfInBounds_ne hne]
    exact k1
  · intro i hi
    by_cases h : i < st.n
    · rw [hA i h]; exact R.bound i h
    · obtain rfl : i = st.n := by simp only at hi; omega
      rw [hv]
      split
      · exact bx
      · exact by_
  · intro i e hi he
    simp only at hi he
    by_cases h : i < st.n
    · rw [show st.n + 1 - 1 - i = (st.n - 1 - i) + 1 by omega, List.getElem?_cons_succ] at he
      obtain ⟨k1, k2, k3⟩ := R.defs i e h he
      refine ⟨?_, Ex.lt_mono (Nat.le_succ _) k2, ?_⟩
      · rw [hA i h, hA.ev k2]; exact k1
      · rw [hA i h]; exact k3
    · obtain rfl : i = st.n := by omega
      rw [show st.n + 1 - 1 - st.n = 0 by omega] at he
      obtain rfl : Ex.cmov b x y = e := by simpa using he
      have hl : (Ex.cmov b x y).lt st.n := ⟨hb, hx, hy⟩
      refine ⟨?_, Ex.lt_mono (Nat.le_succ _) hl, fun h => by cases h⟩
      rw [hA.ev hl, hv]
      rfl
  · intro p q k s hs
    exact ⟨Src.lt_mono (Nat.le_succ _) (R.lts p q k s hs).1, (R.lts p q k s hs).2⟩

theorem stepS_sound (S : EngM P D) (R : Rel β γ ρ st a) (W : WRel β γ ρ np0 olen w0 st w) {st' : St} (h : stepS D np0 olen st o = some st') :
    o.guard = none ∧ st.n ≤ st'.n ∧ ∀ (next : Act → World → Prop) (Q : Exit → Act → World → Prop), Goes β γ ρ np0 olen w0 st st' next → o.wp P a w next Q := by
  unfold stepS at h
  split at h
  · -- store
    rename_i t x y hg hd ho
    split at h
    · rename_i p q k s k' hx hy hw
      obtain ⟨e1, l1⟩ := opnd_sound R hx
      obtain ⟨e2, l2⟩ := opnd_sound R hy
      split at h
      · rename_i hk
        obtain rfl : k = k' := by simpa using hk
        have hwp : ∀ (st1 : St) (u : Value), w.cell? ⟨β p, γ p + q, none⟩ = some u → w.frozen? ⟨β p, γ p + q, none⟩ = false → st1 = st' →
            (Rel β γ ρ st1 a ∧ WRel β γ ρ np0 olen w0 st1 (w.setCell ⟨β p, γ p + q, none⟩ (.int k (den ρ s)))) →
            ∀ (next : Act → World → Prop) (Q : Exit → Act → World → Prop), Goes β γ ρ np0 olen w0 st st' next → o.wp P a w next Q := by
          intro st1 u hu hf hst hRW next Q hG
          subst hst
          unfold Oper.wp execOp
          simp only [ho, e1, e2, SV.val]
          rw [Sem.run_bind, S.hstore t k hw _ _ u w hu hf]
          simp only [Result.andThen_ok, Sem.run_pure, Oper.upon, hd, put_none]
          exact hG β γ ρ a _ (fun _ _ => ⟨rfl, rfl⟩) (fun _ _ => rfl) hRW.1 hRW.2
        split at h
        · rename_i hp0
          obtain rfl : p = 0 := Nat.eq_of_beq_eq_true hp0
          split at h
          · rename_i hq
            have hq' : q < olen := by simpa using hq
            have hst := Option.some.inj h
            refine ⟨hg, by rw [← hst]; exact Nat.le_refl _, ?_⟩
            obtain ⟨⟨u, hu⟩, hf⟩ := W.out q hq'
            exact hwp _ u hu hf hst (wrel_out R W hq' l2)
          · cases h
        · split at h
          · rename_i hp
            simp only [Bool.and_eq_true] at hp
            have hp1 := Nat.le_of_ble_eq_true hp.1
            obtain rfl : q = 0 := Nat.eq_of_beq_eq_true hp.2
            have hst := Option.some.inj h
            refine ⟨hg, by rw [← hst]; exact Nat.le_refl _, ?_⟩
            obtain ⟨k1, k2, k3, ⟨u, k4⟩, k5⟩ := W.loc p hp1 l1
            exact hwp _ u (by rw [k3, Nat.zero_add]; exact k4) (by rw [k3, Nat.zero_add]; exact k5) hst (wrel_loc R W hp1 l1 l2)
          · cases h
      · cases h
    · cases h
  · -- alloc
    rename_i d t hg hd ho
    split at h
    · rename_i hw
      split at h
      · rename_i hlt
        have hst := Option.some.inj h
        refine ⟨hg, by rw [← hst]; exact Nat.le_refl _, fun next Q hG => ?_⟩
        subst hst
        obtain ⟨h1, h2⟩ := wrel_alloc R W (by simpa using hlt) t
        unfold Oper.wp execOp
        simp only [ho]
        rw [Sem.run_bind, S.halloc t hw w]
        simp only [Result.andThen_ok, Sem.run_pure, Oper.upon, hd]
        have hnp := W.np
        exact hG _ _ ρ _ _ (fun p hp => ⟨updN_off _ _ _ _ (by omega), updN_off _ _ _ _ (by omega)⟩) (fun _ _ => rfl) h1 h2
      · cases h
    · cases h
  · -- the conditional move
    rename_i d c hg hd ho
    split at h
    · rename_i f hf
      split at h
      · rename_i p b x y hl
        split at h
        · rename_i hz
          simp only [Bool.and_eq_true] at hz
          obtain ⟨⟨⟨⟨⟨⟨z0, z1⟩, z2⟩, z3⟩, z4⟩, z5⟩, z6⟩ := hz
          obtain rfl : f = D.fcmov := Nat.eq_of_beq_eq_true z1
          have hp := Nat.le_of_ble_eq_true z2
          have hst := Option.some.inj h
          refine ⟨hg, by rw [← hst]; exact Nat.le_succ _, fun next Q hG => ?_⟩
          subst hst
          obtain ⟨o1, o2, o3, o4, hc, hx1, hx2, hx3, hx4⟩ := map4 hl
          obtain ⟨e1, l1⟩ := opnd_sound R hx1
          obtain ⟨e2, l2⟩ := opnd_sound R hx2
          obtain ⟨e3, l3⟩ := opnd_sound R hx3
          obtain ⟨e4, l4⟩ := opnd_sound R hx4
          have b2 := bitOk_bd R z3
          have b3 := srcOk_bd R z4 l3
          have b4 := srcOk_bd R z5 l4
          have hargs : c.args.map a.eval = #[.pointer (some ⟨β p, γ p + 0, none⟩), .int .u64 (den ρ b), .int .u64 (den ρ x), .int .u64 (den ρ y)] := by
            apply Array.toList_inj.1
            rw [Array.toList_map, hc]
            simp [e1, e2, e3, e4, SV.val]
          obtain ⟨k1, k2, k3, ⟨u, k4⟩, k5⟩ := W.loc p hp l1
          have hlook : lookE st.env d = none := by simpa using z6
          obtain ⟨ρ', hA, hv, R'⟩ := rel_cmov R l2 l3 l4 b3 b4 hlook (.tuple #[])
          have W' : WRel β γ ρ' np0 olen w0 { st with n := st.n + 1, defs := .cmov b x y :: st.defs } w := W.pure rfl rfl (fun p' q' k' s' hs => by
            rw [hA.den (R.lts p' q' k' s' hs).1]; exact W.mem p' q' k' s' hs)
          have hRW := wrel_loc (k := .u64) (s := .v st.n) R' W' hp l1 (Nat.lt_succ_self _)
          unfold Oper.wp
          rw [run_call_func ho hf, hargs, S.ecmov z0]
          simp only [Oper.upon]
          refine (S.hcmov z0 _ _ _ _ u w b2 b3.1 b3.2 b4.1 b4.2 (by rw [k3, Nat.zero_add]; exact k4) (by rw [k3, Nat.zero_add]; exact k5)).mono ?_
          rintro e w' ⟨rfl, rfl⟩
          simp only [hd]
          refine hG β γ ρ' _ _ (fun _ _ => ⟨rfl, rfl⟩) hA hRW.1 ?_
          have := hRW.2
          simp only [den, hv] at this
          exact this
        · cases h
      · cases h
    · cases h
  · cases h

/-- One step, of whichever kind. -/
def stepA (D : EngD) (np0 olen : Nat) (st : St) (o : Oper) : Option St :=
  match stepP D st o with
  | some st' => some st'
  | none => stepS D np0 olen st o
def runA (D : EngD) (np0 olen : Nat) : List Oper → St → Option St
  | [], st => some st
  | o :: l, st => match stepA D np0 olen st o with
    | some st' => runA D np0 olen l st'
    | none => none

theorem Goes.trans {st1 st2 : St} {next : Act → World → Prop} {β' γ' : Nat → Nat} {ρ' : Nat → Int} (h : Goes β γ ρ np0 olen w0 st st2 next) (hp : ∀ p, p < np0 → β' p = β p ∧ γ' p = γ p) (hA : Agree st.n ρ ρ') (hn : st.n ≤ st1.n) :
    Goes β' γ' ρ' np0 olen w0 st1 st2 next :=
  fun β2 γ2 ρ2 a2 w2 h1 h2 R2 W2 => h β2 γ2 ρ2 a2 w2 (fun p hp' => ⟨(h1 p hp').1.trans (hp p hp').1, (h1 p hp').2.trans (hp p hp').2⟩) (hA.trans h2 hn) R2 W2

theorem runA_list (S : EngM P D) {ops : Array Oper} {Q : Exit → Act → World → Prop} : ∀ (l : List Oper) {st : St} {a : Act} {w : World} {β γ : Nat → Nat} {ρ : Nat → Int} {st' : St}, runA D np0 olen l st = some st' → Rel β γ ρ st a → WRel β γ ρ np0 olen w0 st w →
    Goes β γ ρ np0 olen w0 st st' (fun a' w' => Q .normal a' w') → wpList P ops Q l a w
  | [], st, a, w, β, γ, ρ, st', h, R, W, hG => by
    obtain rfl := Option.some.inj h
    exact hG β γ ρ a w (fun _ _ => ⟨rfl, rfl⟩) (fun _ _ => rfl) R W
  | o :: l, st, a, w, β, γ, ρ, st', h, R, W, hG => by
    simp only [runA] at h
    split at h
    · rename_i st1 hs
      unfold stepA at hs
      split at hs
      · rename_i st2 hp
        obtain rfl := Option.some.inj hs
        obtain ⟨hg, hn, hm, hnp, ρ1, v, hA, R1, hM1, hv⟩ := stepP_sound S.toEngS R hp
        refine wpList_plain hg fun K hK => ?_
        refine Oper.wp_of_quiet (C := fun x => x = w) (K := fun a' => wpList P ops Q l a' w) rfl (fun a' w' hw' h' => ?_) ⟨v, fun w' hw' => ?_, ?_⟩
        · obtain rfl := hw'
          exact hK _ _ h'
        · obtain rfl := hw'
          exact hv _ W.mem _ rfl
        · exact runA_list S l h R1 (W.pure hm hnp (hM1 _ W.mem)) (hG.trans (fun _ _ => ⟨rfl, rfl⟩) hA hn)
      · obtain ⟨hg, hn, hgo⟩ := stepS_sound S R W hs
        refine wpList_plain hg fun K hK => ?_
        refine hgo K Q ?_
        intro β' γ' ρ' a' w' hp hA R' W'
        exact hK _ _ (runA_list S l h R' W' (hG.trans hp hA hn))
    · cases h

theorem runP_same (S : EngS P D) : ∀ (l : List Oper) {st : St} {a : Act} {ρ : Nat → Int} {st' : St}, runP D l st = some st' → Rel β γ ρ st a → st.n ≤ st'.n ∧ st'.mem = st.mem ∧ st'.np = st.np
  | [], st, a, ρ, st', h, R => by obtain rfl := Option.some.inj h; exact ⟨Nat.le_refl _, rfl, rfl⟩
  | o :: l, st, a, ρ, st', h, R => by
    simp only [runP] at h
    split at h
    · rename_i st1 hs
      obtain ⟨hg, hn, hm, hnp, ρ1, v, hA, R1, _, _⟩ := stepP_sound S R hs
      obtain ⟨k1, k2, k3⟩ := runP_same S l h R1
      exact ⟨Nat.le_trans hn k1, k2.trans hm, k3.trans hnp⟩
    · cases h

/-- A region whose order is drawn: all of it turns nothing; or all but its last operation. -/
def runD (D : EngD) (np0 olen : Nat) (l : List Oper) (st : St) : Option St :=
  match (if Region.lexB .any l.toArray then runP D l st else none) with
  | some st' => some st'
  | none => if Region.lexTailB .any l.toArray (l.length - 1) then
      match runP D (l.take (l.length - 1)) st with
      | some st1 => runA D np0 olen (l.drop (l.length - 1)) st1
      | none => none
    else none

def runC (D : EngD) (np0 olen : Nat) : Code → St → Option (St × Bool)
  | .skip, st => some (st, false)
  | .ret, st => some (st, true)
  | .region _ ops d, st => match d with
    | false => (runA D np0 olen ops.toList st).map fun s => (s, false)
    | true => (runD D np0 olen ops.toList st).map fun s => (s, false)
  | .seq x y, st => match runC D np0 olen x st with
    | some (st1, false) => runC D np0 olen y st1
    | some (st1, true) => some (st1, true)
    | none => none
  | _, _ => none

theorem drewN_of {w w' : World} (h : ∃ k, w' = w.drewN k) : ∃ k, w' = w.drewN k := h

theorem runD_sound (S : EngM P D) {Q : Exit → Act → World → Prop} {id : Nat} {l : List Oper} {st' : St} (h : runD D np0 olen l st = some st') (R : Rel β γ ρ st a) (W : WRel β γ ρ np0 olen w0 st w)
    (hG : Goes β γ ρ np0 olen w0 st st' (fun a' w' => Q .normal a' w')) : (Code.region id l.toArray true).wp P Q a w := by
  unfold runD at h
  split at h
  · rename_i st2 h2
    obtain rfl := Option.some.inj h
    split at h2
    case isFalse => cases h2
    rename_i hB
    have h := h2
    refine wp_region_quiet_lit S.fol hB ?_
    refine runP_quiet S.toEngS l h R (fun w' hw' => ?_) fun ρ' a' hA R' hM => ?_
    · obtain ⟨k, rfl⟩ := hw'
      exact W.mem
    · intro w' hw'
      obtain ⟨k1, k2, k3⟩ := runP_same S.toEngS l h R
      have hM' := hM w' hw'
      obtain ⟨k, rfl⟩ := hw'
      exact hG β γ ρ' a' _ (fun _ _ => ⟨rfl, rfl⟩) hA R' ((W.drewN k).pure k2 k3 hM')
  · split at h
    · rename_i hB
      split at h
      · rename_i st1 h1
        refine wp_quiet_tail (l.length - 1) S.fol hB ?_
        refine runP_quiet S.toEngS _ h1 R (fun w' hw' => ?_) fun ρ' a' hA R' hM => ?_
        · obtain ⟨k, rfl⟩ := hw'
          exact W.mem
        · intro w' hw'
          obtain ⟨k1, k2, k3⟩ := runP_same S.toEngS _ h1 R
          have hM' := hM w' hw'
          obtain ⟨k, rfl⟩ := hw'
          exact runA_list S _ h R' ((W.drewN k).pure k2 k3 hM') (hG.trans (fun _ _ => ⟨rfl, rfl⟩) hA k1)
      · cases h
    · cases h

theorem runA_n (S : EngM P D) : ∀ (l : List Oper) {st : St} {st' : St}, runA D np0 olen l st = some st' → st.n ≤ st'.n
  | [], st, st', h => by obtain rfl := Option.some.inj h; exact Nat.le_refl _
  | o :: l, st, st', h => by
    simp only [runA] at h
    split at h
    · rename_i st1 hs
      refine Nat.le_trans ?_ (runA_n S l h)
      unfold stepA at hs
      split at hs
      · rename_i st2 hp
        obtain rfl := Option.some.inj hs
        unfold stepP at hp
        split at hp
        · split at hp
          · obtain rfl := Option.some.inj hp
            exact Nat.le_add_right _ _
          · cases hp
        · cases hp
      · unfold stepS at hs
        split at hs
        · split at hs
          · split at hs
            · split at hs
              · split at hs
                · obtain rfl := Option.some.inj hs; exact Nat.le_refl _
                · cases hs
              · split at hs
                · obtain rfl := Option.some.inj hs; exact Nat.le_refl _
                · cases hs
            · cases hs
          · cases hs
        · split at hs
          · split at hs
            · obtain rfl := Option.some.inj hs; exact Nat.le_refl _
            · cases hs
          · cases hs
        · split at hs
          · split at hs
            · split at hs
              · obtain rfl := Option.some.inj hs; exact Nat.le_succ _
              · cases hs
            · cases hs
          · cases hs
        · cases hs
    · cases h
theorem runP_n : ∀ (l : List Oper) {st : St} {st' : St}, runP D l st = some st' → st.n ≤ st'.n
  | [], st, st', h => by obtain rfl := Option.some.inj h; exact Nat.le_refl _
  | o :: l, st, st', h => by
    simp only [runP] at h
    split at h
    · rename_i st1 hp
      refine Nat.le_trans ?_ (runP_n l h)
      unfold stepP at hp
      split at hp
      · split at hp
        · obtain rfl := Option.some.inj hp
          exact Nat.le_add_right _ _
        · cases hp
      · cases hp
    · cases h
theorem runD_n (S : EngM P D) {l : List Oper} {st st' : St} (h : runD D np0 olen l st = some st') : st.n ≤ st'.n := by
  unfold runD at h
  split at h
  · rename_i st2 h2
    obtain rfl := Option.some.inj h
    split at h2
    · exact runP_n _ h2
    · cases h2
  · split at h
    · split at h
      · rename_i st1 h1
        exact Nat.le_trans (runP_n _ h1) (runA_n S _ h)
      · cases h
    · cases h
theorem runC_n (S : EngM P D) : ∀ (c : Code) {st : St} {st' : St} {r : Bool}, runC D np0 olen c st = some (st', r) → st.n ≤ st'.n := by
  intro c
  induction c with
  | skip => intro st st' r h; simp only [runC] at h; obtain ⟨rfl, rfl⟩ := Prod.mk.inj (Option.some.inj h); exact Nat.le_refl _
  | ret => intro st st' r h; simp only [runC] at h; obtain ⟨rfl, rfl⟩ := Prod.mk.inj (Option.some.inj h); exact Nat.le_refl _
  | region id ops d =>
    intro st st' r h
    cases d <;> simp only [runC] at h
    · obtain ⟨s1, h1, h2⟩ := Option.map_eq_some_iff.1 h
      obtain ⟨rfl, rfl⟩ := Prod.mk.inj h2
      exact runA_n S _ h1
    · obtain ⟨s1, h1, h2⟩ := Option.map_eq_some_iff.1 h
      obtain ⟨rfl, rfl⟩ := Prod.mk.inj h2
      exact runD_n S h1
  | seq x y ihx ihy =>
    intro st st' r h
    simp only [runC] at h
    split at h
    · rename_i st1 hx
      exact Nat.le_trans (ihx hx) (ihy h)
    · rename_i st1 hx
      obtain ⟨rfl, rfl⟩ := Prod.mk.inj (Option.some.inj h)
      exact ihx hx
    · cases h
  | _ => intro st st' r h; simp only [runC] at h; cases h

theorem runC_sound (S : EngM P D) : ∀ (c : Code) {Q : Exit → Act → World → Prop} {st : St} {a : Act} {w : World} {β γ : Nat → Nat} {ρ : Nat → Int} {st' : St} {r : Bool}, runC D np0 olen c st = some (st', r) → Rel β γ ρ st a → WRel β γ ρ np0 olen w0 st w →
    Goes β γ ρ np0 olen w0 st st' (fun a' w' => Q (if r then .ret else .normal) a' w') → c.wp P Q a w := by
  intro c
  induction c with
  | skip =>
    intro Q st a w β γ ρ st' r h R W hG
    simp only [runC] at h
    obtain ⟨rfl, rfl⟩ := Prod.mk.inj (Option.some.inj h)
    exact wp_skip (hG β γ ρ a w (fun _ _ => ⟨rfl, rfl⟩) (fun _ _ => rfl) R W)
  | ret =>
    intro Q st a w β γ ρ st' r h R W hG
    simp only [runC] at h
    obtain ⟨rfl, rfl⟩ := Prod.mk.inj (Option.some.inj h)
    exact wp_ret (hG β γ ρ a w (fun _ _ => ⟨rfl, rfl⟩) (fun _ _ => rfl) R W)
  | region id ops d =>
    intro Q st a w β γ ρ st' r h R W hG
    obtain ⟨l⟩ := ops
    cases d <;> simp only [runC] at h
    · obtain ⟨s1, h1, h2⟩ := Option.map_eq_some_iff.1 h
      obtain ⟨rfl, rfl⟩ := Prod.mk.inj h2
      exact wp_region_lit (runA_list S _ h1 R W hG)
    · obtain ⟨s1, h1, h2⟩ := Option.map_eq_some_iff.1 h
      obtain ⟨rfl, rfl⟩ := Prod.mk.inj h2
      exact runD_sound S h1 R W hG
  | seq x y ihx ihy =>
    intro Q st a w β γ ρ st' r h R W hG
    simp only [runC] at h
    split at h
    · rename_i st1 hx
      refine wp_seq (ihx hx R W ?_)
      intro β' γ' ρ' a' w' hp hA R' W'
      exact ihy h R' W' (hG.trans hp hA (runC_n S x hx))
    · rename_i st1 hx
      obtain ⟨rfl, rfl⟩ := Prod.mk.inj (Option.some.inj h)
      refine wp_seq (ihx hx R W ?_)
      intro β' γ' ρ' a' w' hp hA R' W'
      exact hG β' γ' ρ' a' w' hp hA R' W'
    · cases h
  | _ => intro Q st a w β γ ρ st' r h; simp only [runC] at h; cases h

/-- A function that returns nothing, run by the engine. -/
theorem eng_call (S : EngM P D) {f : FuncId} {fn : Func} {c : Code} {args : Array Value} {w : World} {r : Bool} {st' : St} (hf : P.funcs[f]? = some fn) (hb : fn.body = some c) (hres : fn.results = #[])
    (hrun : runC D np0 olen c st = some (st', r)) (R : Rel β γ ρ st { tmps := args ++ Array.replicate (fn.ntmps - args.size) undef, defers := [] }) (W : WRel β γ ρ np0 olen w st w) :
    Calls P f args w fun e w' => e = .returned (.tuple #[]) ∧ ∃ β' γ' ρ' a', (∀ p, p < np0 → β' p = β p ∧ γ' p = γ p) ∧ Agree st.n ρ ρ' ∧ Rel β' γ' ρ' st' a' ∧ WRel β' γ' ρ' np0 olen w st' w' := by
  refine calls_of_wp hf hb (runC_sound S c hrun R W ?_)
  intro β' γ' ρ' a' w' hp hA R' W'
  cases r
  · exact bodyPost_end (results_none hres _ _ _) R'.dfr ⟨rfl, β', γ', ρ', a', hp, hA, R', W'⟩
  · exact bodyPost_ret (results_none hres _ _ _) R'.dfr ⟨rfl, β', γ', ρ', a', hp, hA, R', W'⟩
end
end Go.Proofs.Ytgdjmgcolipcnaa
/-
  What is proved here: how the engine starts at pointers, and what it leaves. No program in sight.
  Conditions: those of each theorem.
-/
namespace Go.Proofs.Ytgdjmgcolipcnaa
open Go Go.RowKit
set_option linter.unusedSimpArgs false
set_option linter.unusedVariables false

theorem lookM_mem : ∀ {l : MemL} {p o : Nat} {v : IntKind × Src}, lookM l p o = some v → ((p, o), v) ∈ l
  | ((p', o'), v') :: l, p, o, v, h => by
    simp only [lookM] at h
    split at h
    · rename_i he
      simp only [Bool.and_eq_true] at he
      have e1 := Nat.eq_of_beq_eq_true he.1
      have e2 := Nat.eq_of_beq_eq_true he.2
      subst e1 e2
      obtain rfl := Option.some.inj h
      exact List.mem_cons_self
    · exact List.mem_cons_of_mem _ (lookM_mem h)
theorem lookE_mem : ∀ {l : List (Nat × SV)} {t : Nat} {v : SV}, lookE l t = some v → (t, v) ∈ l
  | (t', v') :: l, t, v, h => by
    simp only [lookE] at h
    split at h
    · rename_i he
      have e1 := Nat.eq_of_beq_eq_true he
      subst e1
      obtain rfl := Option.some.inj h
      exact List.mem_cons_self
    · exact List.mem_cons_of_mem _ (lookE_mem h)

/-- Cells b, o, o + 1 .. hold these integers. -/
def Held (k : IntKind) (w : World) (b o : Nat) (xs : List Int) : Prop := ∀ i x, xs[i]? = some x → w.cell? ⟨b, o + i, none⟩ = some (.int k x)
/-- len cells from b, o on may be written. -/
def Free (w : World) (b o len : Nat) : Prop := ∀ i, i < len → (∃ u, w.cell? ⟨b, o + i, none⟩ = some u) ∧ w.frozen? ⟨b, o + i, none⟩ = false
/-- These cells alone have been turned; blocks may have come. -/
structure Turned (b o len : Nat) (w w' : World) : Prop where
  away : Away b w w'
  keep : ∀ i, (∀ j, j < len → i ≠ o + j) → w'.cell? ⟨b, i, none⟩ = w.cell? ⟨b, i, none⟩
  frz : ∀ i, w'.frozen? ⟨b, i, none⟩ = w.frozen? ⟨b, i, none⟩

def memOf (k : IntKind) (p base : Nat) : Nat → MemL
  | 0 => []
  | m + 1 => ((p, m), (k, .v (base + m))) :: memOf k p base m
theorem memOf_mem {k : IntKind} {p base : Nat} : ∀ {m : Nat} {q o : Nat} {k' : IntKind} {s : Src}, ((q, o), (k', s)) ∈ memOf k p base m → q = p ∧ o < m ∧ k' = k ∧ s = .v (base + o)
  | m + 1, q, o, k', s, h => by
    simp only [memOf, List.mem_cons] at h
    rcases h with h | h
    · obtain ⟨⟨rfl, rfl⟩, rfl, rfl⟩ := (by simpa [Prod.mk.injEq] using h : (q = p ∧ o = m) ∧ k' = k ∧ s = .v (base + m))
      exact ⟨rfl, Nat.lt_succ_self _, rfl, rfl⟩
    · obtain ⟨h1, h2, h3, h4⟩ := memOf_mem h
      exact ⟨h1, Nat.lt_succ_of_lt h2, h3, h4⟩

/-- The start at an out pointer and one in pointer, m integers of kind k behind it. -/
def init2 (sz : Nat) (k : IntKind) (m : Nat) : St := { n := m, size := sz, np := 2, env := [(0, .ptr 0 0), (1, .ptr 1 0)], defs := [], mem := memOf k 1 0 m }
/-- The start at an out pointer and two in pointers, m words behind each. -/
def init3 (sz : Nat) (k : IntKind) (m : Nat) : St := { n := m + m, size := sz, np := 3, env := [(0, .ptr 0 0), (1, .ptr 1 0), (2, .ptr 2 0)], defs := [], mem := memOf k 1 0 m ++ memOf k 2 m m }

section
variable {P : Program} {D : EngD}

theorem eng2 (S : EngM P D) {f : FuncId} {fn : Func} {olen m sz n : Nat} {k : IntKind} {ds : List Ex} (hf : P.funcs[f]? = some fn) (hres : fn.results = #[]) (hsz : fn.ntmps = sz) (h2 : 2 ≤ sz)
    {X : Type} (out : St → X) (ox : X)
    (hrun : (fn.body.bind fun c => (runC D 2 olen c (init2 sz k m)).map fun p => (p.1.n, p.1.defs, out p.1)) = some (n, ds, ox))
    (b0 o0 b1 o1 : Nat) (xs : List Int) (hm : xs.length = m) (hx : ∀ x ∈ xs, 0 ≤ x ∧ x < 18446744073709551616) (w : World) (hb0 : b0 < w.heap.size) (hb1 : b1 < w.heap.size) (hfree : Free w b0 o0 olen) (hheld : Held k w b1 o1 xs) :
    Calls P f #[.pointer (some ⟨b0, o0, none⟩), .pointer (some ⟨b1, o1, none⟩)] w fun e w' => e = .returned (.tuple #[]) ∧ Turned b0 o0 olen w w' ∧
      ∃ ρ : Nat → Int, (∀ i x, xs[i]? = some x → ρ i = x) ∧ (∀ i, i < n → 0 ≤ ρ i ∧ ρ i < 18446744073709551616) ∧ (∀ i x, i < n → ds[n - 1 - i]? = some x → ρ i = ev ρ x) ∧
        ∃ st' : St, out st' = ox ∧ ∀ o k' s, lookM st'.mem 0 o = some (k', s) → w'.cell? ⟨b0, o0 + o, none⟩ = some (.int k' (den ρ s)) := by
  cases hb : fn.body with
  | none => rw [hb] at hrun; simp at hrun
  | some c =>
    rw [hb] at hrun
    simp only [Option.bind_some] at hrun
    obtain ⟨⟨st', r⟩, hr, he⟩ := Option.map_eq_some_iff.1 hrun
    simp only [Prod.mk.injEq] at he
    obtain ⟨hn, hd, ho⟩ := he
    have hxs : ∀ i, i < m → xs[i]? = some (xs.getD i 0) := fun i hi => by
      rw [List.getD_eq_getElem?_getD, List.getElem?_eq_getElem (by omega)]; rfl
    have R : Rel (fun p => if p = 0 then b0 else b1) (fun p => if p = 0 then o0 else o1) (fun i => xs.getD i 0) (init2 sz k m) { tmps := #[.pointer (some ⟨b0, o0, none⟩), .pointer (some ⟨b1, o1, none⟩)] ++ Array.replicate (fn.ntmps - (#[Value.pointer (some ⟨b0, o0, none⟩), .pointer (some ⟨b1, o1, none⟩)] : Array Value).size) undef, defers := [] } := by
      refine ⟨?_, ?_, ?_, ?_, ?_, rfl⟩
      · simp [hsz, init2]; omega
      · intro t sv ht
        have hmem := lookE_mem ht
        simp only [init2, List.mem_cons, List.not_mem_nil, or_false, Prod.mk.injEq] at hmem
        rcases hmem with ⟨rfl, rfl⟩ | ⟨rfl, rfl⟩
        · exact ⟨by rw [Array.getElem?_append_left (by simp)]; rfl, by simp [SV.lt, init2]⟩
        · exact ⟨by rw [Array.getElem?_append_left (by simp)]; rfl, by simp [SV.lt, init2]⟩
      · intro i hi
        have hi' : i < m := hi
        exact hx _ (List.mem_of_getElem? (hxs i hi'))
      · intro i e hi he
        simp [init2] at he
      · intro p o k' s h
        obtain ⟨h1, h2, h3, h4⟩ := memOf_mem (lookM_mem h)
        subst h1 h4
        exact ⟨by simp [Src.lt, init2]; exact h2, by simp [init2]⟩
    have W : WRel (fun p => if p = 0 then b0 else b1) (fun p => if p = 0 then o0 else o1) (fun i => xs.getD i 0) 2 olen w (init2 sz k m) w := by
      refine ⟨?_, Nat.le_refl _, by decide, ?_, ?_, ?_, ?_, Away.refl _ _, fun _ _ => rfl, fun _ => rfl⟩
      · intro p o k' s h
        obtain ⟨h1, h2, h3, h4⟩ := memOf_mem (lookM_mem h)
        subst h1 h3 h4
        simp only [den, Nat.zero_add]
        exact hheld o _ (hxs o h2)
      · intro p hp
        show (if p = 0 then b0 else b1) < _
        split <;> assumption
      · intro p h1 h2
        simp only [init2] at h2
        omega
      · intro p q h1 h2
        simp only [init2] at h2
        omega
      · intro i hi
        exact hfree i hi
    refine (eng_call S hf hb hres hr R W).mono ?_
    rintro e w' ⟨rfl, β', γ', ρ', a', hp, hA, R', W'⟩
    obtain ⟨e1, e2⟩ := hp 0 (by decide)
    simp only [if_true] at e1 e2
    have hkeep := W'.keep
    have hfrz := W'.frz
    have haway := W'.away
    rw [e1] at hkeep hfrz haway
    rw [e2] at hkeep
    refine ⟨rfl, ⟨haway, hkeep, hfrz⟩, ρ', ?_, ?_, ?_, st', ho, ?_⟩
    · intro i x hi
      have hlt : i < m := by
        have := (List.getElem?_eq_some_iff.1 hi).1
        omega
      rw [hA i hlt]
      show xs.getD i 0 = x
      rw [List.getD_eq_getElem?_getD, hi]
      rfl
    · intro i hi
      exact R'.bound i (by rw [hn]; exact hi)
    · intro i x hi hx'
      exact (R'.defs i x (by rw [hn]; exact hi) (by rw [hn, hd]; exact hx')).1
    · intro o k' s h
      have := W'.mem 0 o k' s h
      rw [e1, e2] at this
      exact this
end
end Go.Proofs.Ytgdjmgcolipcnaa
