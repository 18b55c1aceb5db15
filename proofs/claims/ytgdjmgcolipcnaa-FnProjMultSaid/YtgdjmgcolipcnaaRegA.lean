/-
  What is proved here: a rule for a region that draws its order, whose head reads, calls what only grows the world, and makes blocks behind that (in whatever order they come); the rest follows in order. No program in sight.
  Conditions: those of the rule.
-/
import Derived.Test.YtgdjmgcolipcnaaNumRegMem
import Derived.Test.YtgdjmgcolipcnaaByuSet
import Derived.Laws.Tables
namespace Go.Proofs.Ytgdjmgcolipcnaa
open Go Go.RowKit
set_option linter.unusedVariables false
set_option linter.unusedSimpArgs false
variable {P : Program} {md : Region.Mode} {ops : Array Oper} {C : World → Prop} {al : Nat → Option (Sem Next → Prop)}

/-- In every world that has grown: the operation yields v and only grows the world. -/
def QX (P : Program) (C : World → Prop) (o : Oper) (v : Value) (a : Act) : Prop := ∀ w, C w → Oper.quietUpon P (fun w'' => Ext w w'') w v ((execOp a.eval o).run P w)
def ptrV (b : Nat) : Value := .pointer (some ⟨b, 0, none⟩)
def updB (β : Nat → Nat) (i b : Nat) : Nat → Nat := fun j => if j = i then b else β j
theorem updB_same (β : Nat → Nat) (i b : Nat) : updB β i b i = b := if_pos rfl
theorem updB_other (β : Nat → Nat) {i j : Nat} (b : Nat) (h : j ≠ i) : updB β i b j = β j := if_neg h
theorem updB_comm (β : Nat → Nat) {i j : Nat} (b c : Nat) (h : i ≠ j) : updB (updB β i b) j c = updB (updB β j c) i b := by
  funext k
  unfold updB
  by_cases h1 : k = i
  · subst h1; rw [if_neg h, if_pos rfl, if_pos rfl]
  · rw [if_neg h1, if_neg h1]

def stX (P : Program) (ops : Array Oper) (C : World → Prop) (al : Nat → Option (Sem Next → Prop)) (i : Nat) (K : Act → (Nat → Nat) → Prop) (a : Act) (β : Nat → Nat) : Prop :=
  match ops[i]? with
  | none => K a β
  | some o => match al i with
    | some E => (Region.wanted o (yielded ops a.tmps) = true ∧ E (execOp a.eval o)) ∧ ∀ b, K (a.put o.dst (ptrV b)) (updB β i b)
    | none => if Region.wanted o (yielded ops a.tmps) then ∃ v, QX P C o v a ∧ K (a.put o.dst v) β else K (a.put o.dst undef) β
theorem stX_mono {i : Nat} {K K' : Act → (Nat → Nat) → Prop} {a : Act} {β : Nat → Nat} (h : ∀ a β, K a β → K' a β) (hh : stX P ops C al i K a β) : stX P ops C al i K' a β := by
  unfold stX at *
  split
  · rename_i e; simp only [e] at hh; exact h _ _ hh
  · rename_i o e
    simp only [e] at hh
    split
    · rename_i ob e2; simp only [e2] at hh; exact ⟨hh.1, fun b => h _ _ (hh.2 b)⟩
    · rename_i e2
      simp only [e2] at hh
      split
      · rename_i hw; rw [if_pos hw] at hh; obtain ⟨v, h1, h2⟩ := hh; exact ⟨v, h1, h _ _ h2⟩
      · rename_i hw; rw [if_neg hw] at hh; exact h _ _ hh

def hX (P : Program) (md : Region.Mode) (ops : Array Oper) (C : World → Prop) (al : Nat → Option (Sem Next → Prop)) (n : Nat) (L : Array Bool → Act → (Nat → Nat) → Prop) : Nat → Array Bool → Act → (Nat → Nat) → Prop
  | 0, listed, a, β => L listed a β
  | f + 1, listed, a, β => Region.ready md ops listed ≠ [] ∧ ∀ i ∈ Region.ready md ops listed, i < n ∧ stX P ops C al i (hX P md ops C al n L f (listed.setIfInBounds i true)) a β

theorem ext_row {u v : World} (h : Ext u v) {b : Nat} {x : Obj} (hb : u.heap[b]? = some x) : v.heap[b]? = some x := by
  obtain ⟨g, rfl⟩ := h
  rw [heap_ext _ _ _ (Array.getElem?_eq_some_iff.1 hb).1]
  exact hb

theorem hX_any {n g : Nat} {L : Array Bool → Act → (Nat → Nat) → Prop} {Q' : Exit → Act → World → Prop} {Inv : Array Bool → (Nat → Nat) → World → Prop}
    (hC : ∀ listed β w, Inv listed β w → C w) (hgrow : ∀ listed β w w'' i, Inv listed β w → Ext w w'' → al i = none → Inv (listed.setIfInBounds i true) β w'')
    (heff : ∀ listed β w i E o a, al i = some E → ops[i]? = some o → E (execOp a o) → Inv listed β w →
      ∃ b w'', ((execOp a o).run P w = .ok (.value (ptrV b)) w'' ∨ ((execOp a o).run P w = .ok .skip w'' ∧ o.dst = none)) ∧ Inv (listed.setIfInBounds i true) (updB β i b) w'')
    (hL : ∀ listed a β w, Inv listed β w → L listed a β → wpAny P md ops Q' g listed a w) :
    ∀ (f : Nat) (listed : Array Bool) (a : Act) (β : Nat → Nat), hX P md ops C al n L f listed a β → ∀ w, Inv listed β w → wpAny P md ops Q' (f + g) listed a w
  | 0, listed, a, β, h, w, hw => by rw [Nat.zero_add]; exact hL _ _ _ _ hw h
  | f + 1, listed, a, β, h, w, hw => by
    rw [Nat.add_right_comm]
    refine ⟨fun h0 => absurd h0 h.1, fun i hi => ?_⟩
    have hs := (h.2 i hi).2
    unfold stX at hs
    unfold wpOp
    cases ho : ops[i]? with
    | none =>
      simp only [ho] at hs
      obtain ⟨_, o', ho', _⟩ := mem_ready.1 hi
      rw [ho] at ho'
      cases ho'
    | some o =>
      simp only [ho] at hs
      cases ha : al i with
      | some E =>
        simp only [ha] at hs
        obtain ⟨⟨hwt, hE⟩, hk⟩ := hs
        obtain ⟨b, w'', hx, hI⟩ := heff listed β w i E o a.eval ha ho hE hw
        simp only [hwt, if_true]
        refine .inl ?_
        unfold Oper.wp
        rcases hx with hx | ⟨hx, hd⟩
        · rw [hx]
          exact hX_any hC hgrow heff hL f _ _ _ (hk b) _ hI
        · rw [hx]
          have hkb := hk b
          rw [hd] at hkb
          show wpAny P md ops Q' (f + g) _ (a.put o.dst undef) w''
          rw [hd]
          exact hX_any hC hgrow heff hL f _ _ _ hkb _ hI
      | none =>
        simp only [ha] at hs
        by_cases hwt : Region.wanted o (yielded ops a.tmps) = true
        · simp only [hwt, if_true] at hs ⊢
          obtain ⟨v, hq, hk⟩ := hs
          refine .inl ?_
          have h3 := hq w (hC _ _ _ hw)
          unfold Oper.wp
          generalize (execOp a.eval o).run P w = r at *
          cases r with
          | ok x w' =>
            cases x <;> simp only [Oper.quietUpon] at h3 <;> simp only [Oper.upon]
            case value u =>
              obtain ⟨e1, e2⟩ := h3
              rw [e1, e2]
              exact hX_any hC hgrow heff hL f _ _ _ hk _ (hgrow _ _ _ _ _ hw (Ext.refl _) ha)
            case skip =>
              obtain ⟨e1, e2⟩ := h3
              rw [e1, ← e2]
              exact hX_any hC hgrow heff hL f _ _ _ hk _ (hgrow _ _ _ _ _ hw (Ext.refl _) ha)
            case enter fn args =>
              obtain ⟨e1, hc⟩ := h3
              rw [e1]
              exact hc.mono fun e w'' ⟨he, hw''⟩ => by subst he; exact hX_any hC hgrow heff hL f _ _ _ hk _ (hgrow _ _ _ _ _ hw hw'' ha)
          | halt x w' => simp only [Oper.quietUpon] at h3
        · simp only [hwt, Bool.false_eq_true, if_false] at hs ⊢
          exact hX_any hC hgrow heff hL f _ _ _ hs _ (hgrow _ _ _ _ _ hw (Ext.refl _) ha)

/-- What an operation that makes no block leaves. -/
def YX (P : Program) (ops : Array Oper) (C : World → Prop) (o : Oper) (v : Value) (a : Act) : Prop :=
  (Region.wanted o (yielded ops a.tmps) = true ∧ QX P C o v a) ∨ (Region.wanted o (yielded ops a.tmps) = false ∧ v = undef)
theorem YX.put {oi oj : Oper} {v : Value} {a : Act} (hap : oi.apart ops oj = true) (hsi : ∀ cs b, oi.op ≠ .select cs b) (hy : YX P ops C oi v a) (u : Value) : YX P ops C oi v (a.put oj.dst u) := by
  obtain ⟨h1, h2, h3⟩ := Oper.apart_spec hap
  unfold YX QX at *
  rw [execOp_put oi hsi a oj.dst u h3, wanted_put oi a oj.dst u h3]
  exact hy
theorem YX.st {i : Nat} {oi : Oper} {v : Value} {a : Act} {β : Nat → Nat} {K : Act → (Nat → Nat) → Prop} (hi : ops[i]? = some oi) (ha : al i = none) (hy : YX P ops C oi v a) (h : K (a.put oi.dst v) β) : stX P ops C al i K a β := by
  unfold stX
  simp only [hi, ha]
  rcases hy with ⟨hw, hv⟩ | ⟨hw, rfl⟩
  · simp only [hw, if_true]; exact ⟨v, hv, h⟩
  · simp only [hw, Bool.false_eq_true, if_false]; exact h
/-- One operation behind another's value: it may come ahead of it. -/
theorem stX_put {j : Nat} {oi oj : Oper} {v : Value} (hj : ops[j]? = some oj) (hap : oi.apart ops oj = true) (hsj : ∀ cs b, oj.op ≠ .select cs b)
    {K : Act → (Nat → Nat) → Prop} {a : Act} {β : Nat → Nat} (h : stX P ops C al j K (a.put oi.dst v) β) :
    stX P ops C al j (fun a' β' => ∃ u, a' = a.put oj.dst u ∧ K (a'.put oi.dst v) β') a β := by
  obtain ⟨h1, h2, h3⟩ := Oper.apart_spec hap
  unfold stX at *
  simp only [hj] at *
  cases ha : al j with
  | some E =>
    simp only [ha] at h ⊢
    rw [wanted_put oj a oi.dst v h1, execOp_put oj hsj a oi.dst v h1] at h
    refine ⟨h.1, fun b => ⟨_, rfl, ?_⟩⟩
    rw [← Act.put_comm a v _ h2]
    exact h.2 b
  | none =>
    simp only [ha] at h ⊢
    rw [wanted_put oj a oi.dst v h1] at h
    split
    · rename_i hw
      simp only [hw, if_true] at h
      obtain ⟨u, hu, hn⟩ := h
      refine ⟨u, ?_, u, rfl, by rw [← Act.put_comm a v u h2]; exact hn⟩
      unfold QX at *
      rwa [execOp_put oj hsj a oi.dst v h1] at hu
    · rename_i hw
      simp only [hw] at h
      exact ⟨undef, rfl, by rw [← Act.put_comm a v undef h2]; exact h⟩

theorem hX_first {n i : Nat} {oi : Oper} {v : Value} {L : Array Bool → Act → (Nat → Nat) → Prop} (hi : ops[i]? = some oi) (ha : al i = none) (hsel : ∀ (j : Nat) (o : Oper) cs b, ops[j]? = some o → o.op ≠ .select cs b)
    (hs : Region.sinkB md ops n = true) (hc : Region.chainB md ops n = true) (hn : n < ops.size) (hin : i < n)
    (hdone : ∀ listed a β, L listed a β → ∀ j ∈ Region.ready md ops listed, n ≤ j) (f : Nat) :
    ∀ (listed : Array Bool) (a : Act) (β : Nat → Nat), HeadInv md ops n listed →
      (∀ j oj, ops[j]? = some oj → j ≠ i → listed.getD j true = false → (∀ e ∈ oj.after, Region.binds md e = true → e.on ≠ i) → oi.apart ops oj = true) →
      i ∈ Region.ready md ops listed → YX P ops C oi v a →
      hX P md ops C al n L f (listed.setIfInBounds i true) (a.put oi.dst v) β → hX P md ops C al n L (f + 1) listed a β := by
  induction f with
  | zero =>
    intro listed a β inv _ hr hy H
    refine ⟨fun h => (by rw [h] at hr; cases hr), fun j hj => ?_⟩
    have hjn : j < n := (Nat.lt_or_ge j n).elim id fun h => absurd hj (tail_waits hs hc hn inv _ i rfl hin (mem_ready.1 hr).1 j h)
    refine ⟨hjn, ?_⟩
    by_cases hji : j = i
    · subst hji; exact hy.st hi ha H
    · exact absurd (hdone _ _ _ H j (ready_mono hj hji)) (by omega)
  | succ f ih =>
    intro listed a β inv hfree hr hy H
    have hun := (mem_ready.1 hr).1
    refine ⟨fun h => (by rw [h] at hr; cases hr), fun j hj => ?_⟩
    have hjn : j < n := (Nat.lt_or_ge j n).elim id fun h => absurd hj (tail_waits hs hc hn inv _ i rfl hin hun j h)
    refine ⟨hjn, ?_⟩
    by_cases hji : j = i
    · subst hji; exact hy.st hi ha H
    · obtain ⟨hjun, oj, hoj, hall⟩ := mem_ready.1 hj
      have hnot : ∀ e ∈ oj.after, Region.binds md e = true → e.on ≠ i := fun e he hb heq => by
        have h1 := hall e he hb
        rw [heq, getD_both hun] at h1
        cases h1
      have hap := hfree j oj hoj hji hjun hnot
      have h2 := stX_put hoj hap (fun cs b => hsel j oj cs b hoj) (H.2 j (ready_mono hj hji)).2
      refine stX_mono (fun a' β' ⟨u, hu, h3⟩ => ih (listed.setIfInBounds j true) a' β' (inv.set hj hjn) (fun k ok hk hki hku hno => hfree k ok hk hki ?_ hno) (ready_mono hr (Ne.symm hji)) (by rw [hu]; exact hy.put hap (fun cs b => hsel i oi cs b hi) u) ?_) h2
      · by_cases hjk : j = k
        · subst hjk; exact hjun
        · rw [getD_set_ne true hjk] at hku; exact hku
      · rw [Array.setIfInBounds_comm _ _ hji]
        exact h3

/-- An operation that makes a block, where all that is left of the head makes blocks. -/
theorem hX_first_al {n i : Nat} {oi : Oper} {E : Sem Next → Prop} {L : Array Bool → Act → (Nat → Nat) → Prop} (hi : ops[i]? = some oi) (ha : al i = some E) (hsel : ∀ (j : Nat) (o : Oper) cs b, ops[j]? = some o → o.op ≠ .select cs b)
    (hs : Region.sinkB md ops n = true) (hc : Region.chainB md ops n = true) (hn : n < ops.size) (hin : i < n)
    (hdone : ∀ listed a β, L listed a β → ∀ j ∈ Region.ready md ops listed, n ≤ j) (f : Nat) :
    ∀ (listed : Array Bool) (a : Act) (β : Nat → Nat), HeadInv md ops n listed →
      (∀ j oj, ops[j]? = some oj → j ≠ i → listed.getD j true = false → (∀ e ∈ oj.after, Region.binds md e = true → e.on ≠ i) → oi.apart ops oj = true) →
      (∀ j, j < n → listed.getD j true = false → (al j).isSome = true) →
      i ∈ Region.ready md ops listed → (Region.wanted oi (yielded ops a.tmps) = true ∧ E (execOp a.eval oi)) →
      (∀ b, hX P md ops C al n L f (listed.setIfInBounds i true) (a.put oi.dst (ptrV b)) (updB β i b)) → hX P md ops C al n L (f + 1) listed a β := by
  induction f with
  | zero =>
    intro listed a β inv _ _ hr hok H
    refine ⟨fun h => (by rw [h] at hr; cases hr), fun j hj => ?_⟩
    have hjn : j < n := (Nat.lt_or_ge j n).elim id fun h => absurd hj (tail_waits hs hc hn inv _ i rfl hin (mem_ready.1 hr).1 j h)
    refine ⟨hjn, ?_⟩
    by_cases hji : j = i
    · subst hji
      unfold stX
      simp only [hi, ha]
      exact ⟨hok, H⟩
    · exact absurd (hdone _ _ _ (H 0) j (ready_mono hj hji)) (by omega)
  | succ f ih =>
    intro listed a β inv hfree hno hr hok H
    have hun := (mem_ready.1 hr).1
    refine ⟨fun h => (by rw [h] at hr; cases hr), fun j hj => ?_⟩
    have hjn : j < n := (Nat.lt_or_ge j n).elim id fun h => absurd hj (tail_waits hs hc hn inv _ i rfl hin hun j h)
    refine ⟨hjn, ?_⟩
    by_cases hji : j = i
    · subst hji
      unfold stX
      simp only [hi, ha]
      exact ⟨hok, H⟩
    · obtain ⟨hjun, oj, hoj, hall⟩ := mem_ready.1 hj
      have hnot : ∀ e ∈ oj.after, Region.binds md e = true → e.on ≠ i := fun e he hb heq => by
        have h1 := hall e he hb
        rw [heq, getD_both hun] at h1
        cases h1
      obtain ⟨h1, h2, h3⟩ := Oper.apart_spec (hfree j oj hoj hji hjun hnot)
      obtain ⟨obj, haj⟩ := Option.isSome_iff_exists.1 (hno j hjn hjun)
      have hb0 := ((H 0).2 j (ready_mono hj hji)).2
      unfold stX at hb0
      simp only [hoj, haj] at hb0
      rw [wanted_put oj a oi.dst _ h1, execOp_put oj (fun cs b => hsel j oj cs b hoj) a oi.dst _ h1] at hb0
      unfold stX
      simp only [hoj, haj]
      refine ⟨hb0.1, fun c => ?_⟩
      refine ih (listed.setIfInBounds j true) _ _ (inv.set hj hjn) (fun k ok hk hki hku hno' => hfree k ok hk hki ?_ hno') (fun k hk hku => hno k hk ?_) (ready_mono hr (Ne.symm hji)) (by rw [wanted_put oi a oj.dst _ h3, execOp_put oi (fun cs b => hsel i oi cs b hi) a oj.dst _ h3]; exact hok) (fun b => ?_)
      · by_cases hjk : j = k
        · subst hjk; exact hjun
        · rw [getD_set_ne true hjk] at hku; exact hku
      · by_cases hjk : j = k
        · subst hjk; exact hjun
        · rw [getD_set_ne true hjk] at hku; exact hku
      · have hb := (H b).2 j (ready_mono hj hji)
        have hb2 := hb.2
        unfold stX at hb2
        simp only [hoj, haj] at hb2
        have := hb2.2 c
        rw [Act.put_comm a _ _ h2, Array.setIfInBounds_comm _ _ (Ne.symm hji), updB_comm _ _ _ (Ne.symm hji)] at this
        exact this

/-- The walk of the head, in the order of the text. -/
def wpX (P : Program) (ops : Array Oper) (C : World → Prop) (al : Nat → Option (Sem Next → Prop)) (Q : Act → (Nat → Nat) → Prop) : Nat → List Oper → Act → (Nat → Nat) → Prop
  | _, [], a, β => Q a β
  | k, o :: l, a, β => match al k with
    | some E => (Region.wanted o (yielded ops a.tmps) = true ∧ E (execOp a.eval o)) ∧ ∀ b, wpX P ops C al Q (k + 1) l (a.put o.dst (ptrV b)) (updB β k b)
    | none => if Region.wanted o (yielded ops a.tmps) then ∃ v, QX P C o v a ∧ wpX P ops C al Q (k + 1) l (a.put o.dst v) β else wpX P ops C al Q (k + 1) l (a.put o.dst undef) β

theorem hX_lex {n g : Nat} {Lq : Act → (Nat → Nat) → Prop} (hsel : Region.noSelect ops = true) (hs : Region.sinkB md ops n = true) (hc : Region.chainB md ops n = true) (hn : n < ops.size)
    (hlast : ∀ k, (al k).isSome = true → ∀ j, k ≤ j → j < n → (al j).isSome = true) :
    ∀ (l : List Oper) (k : Nat) (listed : Array Bool) (a : Act) (β : Nat → Nat), (∀ j, j < l.length → l[j]? = ops[k + j]?) → k + l.length = n → HeadInv md ops n listed → (∀ j, j < k → listed.getD j false = true) →
    Region.lexHead md ops g l.length k listed = true → wpX P ops C al Lq k l a β →
    hX P md ops C al n (fun listed' a' β' => Region.seqB md ops g n listed' = true ∧ (∀ j, j < n → listed'.getD j false = true) ∧ Lq a' β') l.length listed a β
  | [], k, listed, a, β, _, hk, _, hl, hB, h => by
    obtain rfl : k = n := by simpa using hk
    exact ⟨by simpa [Region.lexHead] using hB, hl, h⟩
  | o :: l, k, listed, a, β, hl, hk, inv, hdn, hB, h => by
    have h0 : ops[k]? = some o := by simpa using (hl 0 (by simp)).symm
    simp only [List.length_cons, Region.lexHead, Bool.and_eq_true] at hB
    obtain ⟨⟨hr, hf⟩, hB'⟩ := hB
    have hkn : k < n := by simp only [List.length_cons] at hk; omega
    have hr' : k ∈ Region.ready md ops listed := by simpa using hr
    have hsz : k < listed.size := by rw [inv.size]; exact (Array.getElem?_eq_some_iff.1 h0).1
    have hdn' : ∀ j, j < k + 1 → (listed.setIfInBounds k true).getD j false = true := fun j hj => by
      by_cases e : k = j
      · subst e; simp [hsz]
      · exact getD_set_true (hdn j (by omega))
    have hnext : ∀ (a' : Act) (β' : Nat → Nat), wpX P ops C al Lq (k + 1) l a' β' → hX P md ops C al n (fun listed' a' β' => Region.seqB md ops g n listed' = true ∧ (∀ j, j < n → listed'.getD j false = true) ∧ Lq a' β') l.length (listed.setIfInBounds k true) a' β' := fun a' β' h' =>
      hX_lex hsel hs hc hn hlast l (k + 1) _ a' β' (fun j hj => by have := hl (j + 1) (by simp; omega); simpa [Nat.add_assoc, Nat.add_comm 1 j] using this) (by simp only [List.length_cons] at hk; omega) (inv.set hr' hkn) hdn' hB' h'
    rw [wpX] at h
    cases ha : al k with
    | some E =>
      simp only [ha] at h
      refine hX_first_al h0 ha (Region.noSelect_spec hsel) hs hc hn hkn (fun listed' a' β' hL => seqB_ready hL.1) l.length listed a β inv (Region.free_spec h0 hf) (fun j hj hu => ?_) hr' h.1 (fun b => hnext _ _ (h.2 b))
      refine hlast k (by rw [ha]; rfl) j ?_ hj
      refine Nat.le_of_not_lt fun hlt => ?_
      have := hdn j hlt
      rw [getD_both hu] at this
      cases this
    | none =>
      simp only [ha] at h
      by_cases hw : Region.wanted o (yielded ops a.tmps) = true
      · simp only [hw, if_true] at h
        obtain ⟨v, hv, hK⟩ := h
        exact hX_first h0 ha (Region.noSelect_spec hsel) hs hc hn hkn (fun listed' a' β' hL => seqB_ready hL.1) l.length listed a β inv (Region.free_spec h0 hf) hr' (.inl ⟨hw, hv⟩) (hnext _ _ hK)
      · simp only [hw, Bool.false_eq_true, if_false] at h
        exact hX_first h0 ha (Region.noSelect_spec hsel) hs hc hn hkn (fun listed' a' β' hL => seqB_ready hL.1) l.length listed a β inv (Region.free_spec h0 hf) hr' (.inr ⟨by simpa using hw, rfl⟩) (hnext _ _ h)

theorem Ext.gr (w : World) (g : Gr) : Ext w (ext w g) := ⟨g, rfl⟩
theorem Ext.of_drew {w w' : World} (h : Ext w.drew w') : Ext w w' := by
  obtain ⟨g, rfl⟩ := h
  exact ⟨g, rfl⟩
theorem Ext.to_drew {w w' : World} (h : Ext w w') : Ext w.drew w' := by
  obtain ⟨g, rfl⟩ := h
  exact ⟨g, rfl⟩
/-- The rule at large. -/
theorem wp_eff_tail {id : Nat} {Q : Exit → Act → World → Prop} {a : Act} {w : World} {l : List Oper} (n : Nat) {al : Nat → Option (Sem Next → Prop)} {Inv : Array Bool → (Nat → Nat) → World → Prop} (hm : P.follows .mixedOrders = true) (hB : Region.lexTailB .any l.toArray n = true)
    (hC : ∀ listed β w, Inv listed β w → C w) (hgrow : ∀ listed β w w'' i, Inv listed β w → Ext w w'' → al i = none → Inv (listed.setIfInBounds i true) β w'')
    (heff : ∀ listed β w i E o a, al i = some E → l.toArray[i]? = some o → E (execOp a o) → Inv listed β w →
      ∃ b w'', ((execOp a o).run P w = .ok (.value (ptrV b)) w'' ∨ ((execOp a o).run P w = .ok .skip w'' ∧ o.dst = none)) ∧ Inv (listed.setIfInBounds i true) (updB β i b) w'')
    (hinv : Inv (Array.replicate l.toArray.size false) (fun _ => 0) w.drew)
    (hlast : ∀ k, (al k).isSome = true → ∀ j, k ≤ j → j < n → (al j).isSome = true)
    (h : wpX P l.toArray C al (fun a' β => ∀ listed w', (∀ j, j < n → listed.getD j false = true) → Inv listed β w' → wpList P l.toArray Q (l.drop n) a' w') 0 (l.take n) a (fun _ => 0)) : (Code.region id l.toArray true).wp P Q a w := by
  simp only [Region.lexTailB, Bool.and_eq_true, decide_eq_true_eq] at hB
  obtain ⟨⟨⟨⟨hsel, hn⟩, hs⟩, hc⟩, hlex⟩ := hB
  have hn' : n < l.length := by simpa using hn
  have htl : (l.take n).length = n := by simp; omega
  have hdl : (l.drop n).length = l.toArray.size - n := by simp
  have inv0 : HeadInv .any l.toArray n (Array.replicate l.toArray.size false) :=
    ⟨by simp, fun j oj _ hl => (by rw [getD_replicate_false] at hl; cases hl), fun t _ ht => getD_in (by simpa using ht) (getD_replicate_false _ _)⟩
  have H := hX_lex (md := .any) (g := l.toArray.size - n) hsel hs hc hn hlast (l.take n) 0 _ a (fun _ => 0) (fun j hj => by
    have hj' : j < n := by rw [htl] at hj; exact hj
    simp [hj']) (by simpa using htl) inv0 (fun j hj => absurd hj (Nat.not_lt_zero _)) (by rw [htl]; exact hlex) h
  refine wp_region_any hm ?_
  have := hX_any (Q' := Q) (g := l.toArray.size - n) hC hgrow heff (fun listed a' β w' hw' hL => by
    have := wpAny_of_seq (md := .any) (Q' := Q) (l.drop n) n listed a' w' (fun j => by simp [List.getElem?_drop]) (by rw [hdl]; exact hL.1) (hL.2.2 listed w' hL.2.1 hw')
    rwa [hdl] at this) _ _ _ _ H w.drew hinv
  rw [htl, show n + (l.toArray.size - n) = l.toArray.size by omega] at this
  exact this

theorem wpX_mono : ∀ (l' : List Oper) (k : Nat) (a : Act) (β : Nat → Nat) (Q1 Q2 : Act → (Nat → Nat) → Prop), (∀ a β, Q1 a β → Q2 a β) → wpX P ops C al Q1 k l' a β → wpX P ops C al Q2 k l' a β := by
  intro l'
  induction l' with
  | nil => intro k a β Q1 Q2 hq h; exact hq _ _ h
  | cons o l' ih =>
    intro k a β Q1 Q2 hq h
    rw [wpX] at h ⊢
    split
    · rename_i E hk
      simp only [hk] at h
      exact ⟨h.1, fun b => ih _ _ _ _ _ hq (h.2 b)⟩
    · rename_i hk
      simp only [hk] at h
      split
      · rename_i hw; rw [if_pos hw] at h; obtain ⟨v, h1, h2⟩ := h; exact ⟨v, h1, ih _ _ _ _ _ hq h2⟩
      · rename_i hw; rw [if_neg hw] at h; exact ih _ _ _ _ _ hq h

/-- Operations that make a block. -/
def MakesE (P : Program) (ob : Obj) (m : Sem Next) : Prop := ∀ w, m.run P w = .ok (.value (.pointer (some ⟨w.heap.size, 0, none⟩))) (w.alloc ob)
structure SI (w0 : World) (lo n : Nat) (ob : Obj) (listed : Array Bool) (β : Nat → Nat) (w : World) : Prop where
  ext : Ext w0 w
  there : ∀ i, lo ≤ i → i < n → listed.getD i false = true → w.heap[β i]? = some ob ∧ w0.heap.size ≤ β i
  ne : ∀ i j, i ≠ j → lo ≤ i → i < n → lo ≤ j → j < n → listed.getD i false = true → listed.getD j false = true → β i ≠ β j
def alR (P : Program) (lo n : Nat) (ob : Obj) : Nat → Option (Sem Next → Prop) := fun i => if lo ≤ i ∧ i < n then some (MakesE P ob) else none
theorem alR_last {lo n : Nat} {ob : Obj} : ∀ k, (alR P lo n ob k).isSome = true → ∀ j, k ≤ j → j < n → (alR P lo n ob j).isSome = true := fun k hk j h1 h2 => by
  unfold alR at *
  by_cases h : lo ≤ k ∧ k < n
  · rw [if_pos ⟨by omega, h2⟩]; rfl
  · rw [if_neg h] at hk; cases hk
theorem alR_none {lo n i : Nat} {ob : Obj} (h : alR P lo n ob i = none) : ¬ (lo ≤ i ∧ i < n) := fun h' => by
  unfold alR at h
  rw [if_pos h'] at h
  cases h
theorem SI.grow {w0 w w' : World} {lo n i : Nat} {ob : Obj} {β : Nat → Nat} {listed : Array Bool} (h : SI w0 lo n ob listed β w) (hE : Ext w w') (hi : ¬ (lo ≤ i ∧ i < n)) : SI w0 lo n ob (listed.setIfInBounds i true) β w' where
  ext := h.ext.trans hE
  there := fun j h1 h2 hl => by
    rw [getD_set_ne false (by omega : i ≠ j)] at hl
    obtain ⟨k1, k2⟩ := h.there j h1 h2 hl
    exact ⟨ext_row hE k1, k2⟩
  ne := fun j k hjk h1 h2 h3 h4 hl hl' => by
    rw [getD_set_ne false (by omega : i ≠ j)] at hl
    rw [getD_set_ne false (by omega : i ≠ k)] at hl'
    exact h.ne j k hjk h1 h2 h3 h4 hl hl'
theorem SI.make {w0 w : World} {lo n i : Nat} {ob : Obj} {β : Nat → Nat} {listed : Array Bool} (h : SI w0 lo n ob listed β w) : SI w0 lo n ob (listed.setIfInBounds i true) (updB β i w.heap.size) (w.alloc ob) where
  ext := h.ext.trans (Ext.al _ _)
  there := fun j h1 h2 hl => by
    by_cases hji : j = i
    · subst hji
      rw [updB_same]
      exact ⟨heap_at _ _ _ rfl, h.ext.below.size⟩
    · rw [getD_set_ne false (Ne.symm hji)] at hl
      rw [updB_other _ _ hji]
      obtain ⟨k1, k2⟩ := h.there j h1 h2 hl
      exact ⟨ext_row (Ext.al _ _) k1, k2⟩
  ne := fun j k hjk h1 h2 h3 h4 hl hl' => by
    by_cases hji : j = i
    · subst hji
      rw [getD_set_ne false hjk] at hl'
      rw [updB_same, updB_other _ _ (Ne.symm hjk)]
      have := (Array.getElem?_eq_some_iff.1 (h.there k h3 h4 hl').1).1
      omega
    · by_cases hki : k = i
      · subst hki
        rw [getD_set_ne false (Ne.symm hji)] at hl
        rw [updB_same, updB_other _ _ hji]
        have := (Array.getElem?_eq_some_iff.1 (h.there j h1 h2 hl).1).1
        omega
      · rw [getD_set_ne false (Ne.symm hji)] at hl
        rw [getD_set_ne false (Ne.symm hki)] at hl'
        rw [updB_other _ _ hji, updB_other _ _ hki]
        exact h.ne j k hjk h1 h2 h3 h4 hl hl'
/-- The rule where the last operations of the head make blocks of one kind. -/
theorem wp_make_tail {id : Nat} {Q : Exit → Act → World → Prop} {a : Act} {w : World} {l : List Oper} (n lo : Nat) (ob : Obj) (hm : P.follows .mixedOrders = true) (hB : Region.lexTailB .any l.toArray n = true)
    (h : wpX P l.toArray (fun u => Ext w u) (alR P lo n ob) (fun a' β => ∀ w', Ext w w' → (∀ i, lo ≤ i → i < n → w'.heap[β i]? = some ob ∧ w.heap.size ≤ β i) →
      (∀ i j, i ≠ j → lo ≤ i → i < n → lo ≤ j → j < n → β i ≠ β j) → wpList P l.toArray Q (l.drop n) a' w') 0 (l.take n) a (fun _ => 0)) : (Code.region id l.toArray true).wp P Q a w := by
  refine wp_eff_tail (C := fun u => Ext w u) (al := alR P lo n ob) (Inv := fun listed β u => SI w lo n ob listed β u) n hm hB (fun _ _ _ h => h.ext) (fun _ _ _ _ _ h hE hi => h.grow hE (alR_none hi)) ?_ ?_ alR_last ?_
  · intro listed β u i E o ev hi ho hE hI
    unfold alR at hi
    by_cases h' : lo ≤ i ∧ i < n
    · rw [if_pos h'] at hi
      obtain rfl := Option.some.inj hi
      exact ⟨u.heap.size, u.alloc ob, .inl (hE u), hI.make⟩
    · rw [if_neg h'] at hi; cases hi
  · exact ⟨⟨⟨[], w.drawn + 1⟩, by simp [ext]⟩, fun i _ _ hl => (by rw [getD_replicate_false] at hl; cases hl), fun i j _ _ _ _ _ hl => (by rw [getD_replicate_false] at hl; cases hl)⟩
  · exact wpX_mono _ _ _ _ _ _ (fun a' β' h1 listed w' hl hI => h1 w' hI.ext (fun i h2 h3 => hI.there i h2 h3 (hl i h3)) (fun i j hij h2 h3 h4 h5 => hI.ne i j hij h2 h3 h4 h5 (hl i h3) (hl j h5))) h

/-- An operation that lays a row into block b. -/
def LaysE (P : Program) (b : Nat) (t : TypeId) (new : Array Value) (m : Sem Next) : Prop := ∀ u c, u.heap[b]? = some (.cells c t (0, 0)) → c.size = new.size → m.run P u = .ok .skip (u.setRow b new)
theorem LaysE.of {o : Oper} {ev : Operand → Value} {ty : TypeId} {x y : Operand} {b : Nat} {t : TypeId} {new : Array Value} (ho : o.op = .store ty x y) (hx : ev x = .pointer (some ⟨b, 0, none⟩)) (hy : ev y = .agg new)
    (hi : (P.info? ty).map (·.size) = some new.size) (h1 : new.all (·.oneCell') = true) : LaysE P b t new (execOp ev o) := fun u c hc hs => by
  unfold execOp
  simp only [ho, hx, hy, Instr.storeAt, Instr.sureAddr, Sem.run_bind, Sem.run_pure, Result.andThen_ok, run_storeVar_row u b t ty c new hc hi hs h1]
def laR (P : Program) (s b : Nat) (t : TypeId) (new : Array Value) : Nat → Option (Sem Next → Prop) := fun i => if i = s then some (LaysE P b t new) else none
theorem Away.row {b : Nat} {w u : World} (h : Away b w u) {k : Nat} {x : Obj} (hk : w.heap[k]? = some x) (hb : k ≠ b) : u.heap[k]? = some x := by
  rw [h.2.2.2.2 k (Array.getElem?_eq_some_iff.1 hk).1 hb]
  exact hk
theorem Away.grows {b : Nat} {w u v : World} (h : Away b w u) (hE : Ext u v) : Away b w v := h.trans (Away.of_below hE.below (Nat.le_refl _))
theorem Away.lay {b : Nat} {w u : World} (h : Away b w u) (c : Array Value) : Away b w (u.setRow b c) :=
  ⟨h.1, h.2.1, h.2.2.1, by rw [setRow_size]; exact h.2.2.2.1, fun k hk hb => by rw [setRow_other _ _ _ _ hb]; exact h.2.2.2.2 k hk hb⟩
theorem Ext.away {b : Nat} {u w v : World} (h : Ext u w) (hb : u.heap.size ≤ b) (hA : Away b w v) : Ext u v := by
  obtain ⟨h1, h2, h3, h4, h5⟩ := h.below
  refine Ext.of_below ⟨hA.2.1.trans h1, hA.1.trans h2, hA.2.2.1.trans h3, Nat.le_trans h4 hA.2.2.2.1, fun k hk => ?_⟩
  rw [hA.2.2.2.2 k (Nat.lt_of_lt_of_le hk h4) (by omega)]
  exact h5 k hk
/-- The rule where a row is laid into block b, however early. -/
theorem wp_late_tail {id : Nat} {Q : Exit → Act → World → Prop} {a : Act} {w : World} {l : List Oper} (s b : Nat) (t : TypeId) (old new : Array Value) (hm : P.follows .mixedOrders = true) (hB : Region.lexTailB .any l.toArray (s + 1) = true)
    (hds : ∀ o, l.toArray[s]? = some o → o.dst = none) (hb : w.heap[b]? = some (.cells old t (0, 0))) (hs : old.size = new.size)
    (h : wpX P l.toArray (fun u => Away b w u) (laR P s b t new) (fun a' _ => ∀ w', Away b w w' → w'.heap[b]? = some (.cells new t (0, 0)) → wpList P l.toArray Q (l.drop (s + 1)) a' w') 0 (l.take (s + 1)) a (fun _ => 0)) : (Code.region id l.toArray true).wp P Q a w := by
  refine wp_eff_tail (C := fun u => Away b w u) (al := laR P s b t new) (Inv := fun listed _ u => Away b w u ∧ ∃ c, u.heap[b]? = some (.cells c t (0, 0)) ∧ c.size = new.size ∧ (listed.getD s false = true → c = new)) (s + 1) hm hB (fun _ _ _ h => h.1) ?_ ?_ ?_ ?_ ?_
  · intro listed β u v i hI hE hi
    obtain ⟨hA, c, hc, hcs, hcn⟩ := hI
    have hne : i ≠ s := fun e => by unfold laR at hi; rw [if_pos e] at hi; cases hi
    exact ⟨hA.grows hE, c, ext_row hE hc, hcs, fun hl => hcn (by rwa [getD_set_ne false hne] at hl)⟩
  · intro listed β u i E o ev hi ho hE hI
    unfold laR at hi
    by_cases h' : i = s
    · rw [if_pos h'] at hi
      obtain rfl := Option.some.inj hi
      obtain ⟨hA, c, hc, hcs, _⟩ := hI
      refine ⟨0, u.setRow b new, ?_, hA.lay new, new, setRow_heap _ _ _ _ _ _ hc, rfl, fun _ => rfl⟩
      exact .inr ⟨hE u c hc hcs, hds o (h' ▸ ho)⟩
    · rw [if_neg h'] at hi; cases hi
  · exact ⟨⟨rfl, rfl, rfl, Nat.le_refl _, fun _ _ _ => rfl⟩, old, hb, hs, fun hl => (by rw [getD_replicate_false] at hl; cases hl)⟩
  · intro k hk j h1 h2
    unfold laR at *
    by_cases e : k = s
    · rw [if_pos (by omega)]; rfl
    · rw [if_neg e] at hk; cases hk
  · exact wpX_mono _ _ _ _ _ _ (fun a' β' h1 listed w' hl hI => by
      obtain ⟨hA, c, hc, _, hcn⟩ := hI
      obtain rfl := hcn (hl s (Nat.lt_succ_self _))
      exact h1 w' hA hc) h

/-! Its steps. -/
theorem wpX_nil {Q : Act → (Nat → Nat) → Prop} {k : Nat} {a : Act} {β : Nat → Nat} (h : Q a β) : wpX P ops C al Q k [] a β := h
theorem wpX_make {Q : Act → (Nat → Nat) → Prop} {k : Nat} {o : Oper} {l : List Oper} {a : Act} {β : Nat → Nat} {E : Sem Next → Prop} (ha : al k = some E) (hw : Region.wanted o (yielded ops a.tmps) = true) (hE : E (execOp a.eval o)) (h : ∀ b, wpX P ops C al Q (k + 1) l (a.put o.dst (ptrV b)) (updB β k b)) : wpX P ops C al Q k (o :: l) a β := by
  rw [wpX]
  simp only [ha]
  exact ⟨⟨hw, hE⟩, h⟩
theorem wpX_skip {Q : Act → (Nat → Nat) → Prop} {k : Nat} {o : Oper} {l : List Oper} {a : Act} {β : Nat → Nat} (ha : al k = none) (hw : Region.wanted o (yielded ops a.tmps) = false) (h : wpX P ops C al Q (k + 1) l (a.put o.dst undef) β) : wpX P ops C al Q k (o :: l) a β := by
  rw [wpX]
  simp only [ha, hw]
  exact h
theorem put_inj {a : Act} {d : Tmp} {u v : Value} (hd : d < a.tmps.size) (h : a.put (some d) u = a.put (some d) v) : u = v := by
  have h1 : (a.put (some d) u).tmps[d]? = (a.put (some d) v).tmps[d]? := by rw [h]
  simpa [Act.put, hd] using h1
theorem wpX_step {Q : Act → (Nat → Nat) → Prop} {k : Nat} {o : Oper} {l : List Oper} {a a' : Act} {β : Nat → Nat} {d : Tmp} (w0 : World) (hC : C w0) (ha : al k = none) (hw : Region.wanted o (yielded ops a.tmps) = true) (hd : o.dst = some d) (hdl : d < a.tmps.size)
    (h : ∀ u, C u → ∀ K : Act → Prop, K a' → o.quiet P a (fun w'' => ∃ g, w'' = ext u g) K) (hk : wpX P ops C al Q (k + 1) l a' β) : wpX P ops C al Q k (o :: l) a β := by
  rw [wpX]
  simp only [ha, hw, if_true]
  obtain ⟨v, hv, hva⟩ := h w0 hC (fun a'' => a'' = a') rfl
  refine ⟨v, fun w hE => ?_, by rw [hva]; exact hk⟩
  obtain ⟨u, hu, hua⟩ := h w hE (fun a'' => a'' = a') rfl
  have : u = v := by
    rw [hd] at hua hva
    exact put_inj hdl (hua.trans hva.symm)
  subst this
  exact hu w (Ext.refl _)
end Go.Proofs.Ytgdjmgcolipcnaa
