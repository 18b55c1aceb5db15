/-
  What is proved here: a rule for a region that draws its order: its first operations are quiet in a class of worlds, the rest follow them one behind the other. No program in sight.
  Conditions: those of the rule.
-/
import Derived.StillTail
import Derived.BigQuiet
import Derived.Deep.QuietTactic
import Derived.WalkKit
import Derived.Below
import Derived.Deep.WholeRow
import Derived.Laws.Tables
namespace Go.Proofs.Ytblhnmahkabmiaa
open Go Go.RowKit
variable {P : Program} {md : Region.Mode} {ops : Array Oper} {C : World → Prop}

/-- Whatever order is picked: the next f operations are of the first n, each quiet; then L. -/
def headAny (P : Program) (md : Region.Mode) (ops : Array Oper) (C : World → Prop) (n : Nat) (L : Array Bool → Act → Prop) : Nat → Array Bool → Act → Prop
  | 0, listed, a => L listed a
  | f + 1, listed, a =>
    Region.ready md ops listed ≠ [] ∧ ∀ i ∈ Region.ready md ops listed, i < n ∧ qOp P ops C i (headAny P md ops C n L f (listed.setIfInBounds i true)) a

theorem headAny_any {n g : Nat} {L : Array Bool → Act → Prop} {Q' : Exit → Act → World → Prop} (hL : ∀ listed a w, C w → L listed a → wpAny P md ops Q' g listed a w) :
    ∀ (f : Nat) (listed : Array Bool) (a : Act), headAny P md ops C n L f listed a → ∀ w, C w → wpAny P md ops Q' (f + g) listed a w
  | 0, listed, a, h, w, hw => by rw [Nat.zero_add]; exact hL _ _ _ hw h
  | f + 1, listed, a, h, w, hw => by
    rw [Nat.add_right_comm]
    exact ⟨fun h0 => absurd h0 h.1, fun i hi => wpOp_of_qOp hw (fun a' w' hw' h' => headAny_any hL f _ a' h' w' hw') (h.2 i hi).2⟩

theorem headAny_first {n i : Nat} {oi : Oper} {v : Value} {L : Array Bool → Act → Prop} (hi : ops[i]? = some oi) (hsel : ∀ (j : Nat) (o : Oper) cs b, ops[j]? = some o → o.op ≠ .select cs b)
    (hs : Region.sinkB md ops n = true) (hc : Region.chainB md ops n = true) (hn : n < ops.size) (hin : i < n)
    (hdone : ∀ listed a, L listed a → ∀ j ∈ Region.ready md ops listed, n ≤ j) (f : Nat) :
    ∀ (listed : Array Bool) (a : Act), HeadInv md ops n listed →
      (∀ j oj, ops[j]? = some oj → j ≠ i → listed.getD j true = false → (∀ e ∈ oj.after, Region.binds md e = true → e.on ≠ i) → oi.apart ops oj = true) →
      i ∈ Region.ready md ops listed → YieldsIn P ops C oi v a →
      headAny P md ops C n L f (listed.setIfInBounds i true) (a.put oi.dst v) → headAny P md ops C n L (f + 1) listed a := by
  induction f with
  | zero =>
    intro listed a inv _ hr hy H
    refine ⟨fun h => (by rw [h] at hr; cases hr), fun j hj => ?_⟩
    have hjn : j < n := (Nat.lt_or_ge j n).elim id fun h => absurd hj (tail_waits hs hc hn inv _ i rfl hin (mem_ready.1 hr).1 j h)
    refine ⟨hjn, ?_⟩
    by_cases hji : j = i
    · subst hji; exact hy.qOp hi H
    · exact absurd (hdone _ _ H j (ready_mono hj hji)) (by omega)
  | succ f ih =>
    intro listed a inv hfree hr hy H
    have hun := (mem_ready.1 hr).1
    refine ⟨fun h => (by rw [h] at hr; cases hr), fun j hj => ?_⟩
    have hjn : j < n := (Nat.lt_or_ge j n).elim id fun h => absurd hj (tail_waits hs hc hn inv _ i rfl hin hun j h)
    refine ⟨hjn, ?_⟩
    by_cases hji : j = i
    · subst hji; exact hy.qOp hi H
    · obtain ⟨hjun, oj, hoj, hall⟩ := mem_ready.1 hj
      have hnot : ∀ e ∈ oj.after, Region.binds md e = true → e.on ≠ i := fun e he hb heq => by
        have h1 := hall e he hb
        rw [heq, getD_both hun] at h1
        cases h1
      have h2 := qOp_put hoj (hfree j oj hoj hji hjun hnot) (fun cs b => hsel i oi cs b hi) (fun cs b => hsel j oj cs b hoj) hy (H.2 j (ready_mono hj hji)).2
      refine qOp_mono (fun a' h3 => ih (listed.setIfInBounds j true) a' (inv.set hj hjn) (fun k ok hk hki hku hno => hfree k ok hk hki ?_ hno) (ready_mono hr (Ne.symm hji)) h3.1 ?_) h2
      · by_cases hjk : j = k
        · subst hjk; exact hjun
        · rw [getD_set_ne true hjk] at hku; exact hku
      · rw [Array.setIfInBounds_comm _ _ hji]
        exact h3.2

theorem headAny_lex {n g : Nat} {Lq : Act → Prop} (hsel : Region.noSelect ops = true) (hs : Region.sinkB md ops n = true) (hc : Region.chainB md ops n = true) (hn : n < ops.size) :
    ∀ (l : List Oper) (k : Nat) (listed : Array Bool) (a : Act), (∀ j, j < l.length → l[j]? = ops[k + j]?) → k + l.length = n → HeadInv md ops n listed →
    Region.lexHead md ops g l.length k listed = true → wpQuiet P ops C Lq l a →
    headAny P md ops C n (fun listed' a' => Region.seqB md ops g n listed' = true ∧ Lq a') l.length listed a
  | [], k, listed, a, _, hk, _, hB, h => by
    obtain rfl : k = n := by simpa using hk
    exact ⟨by simpa [Region.lexHead] using hB, h⟩
  | o :: l, k, listed, a, hl, hk, inv, hB, h => by
    have h0 : ops[k]? = some o := by simpa using (hl 0 (by simp)).symm
    simp only [List.length_cons, Region.lexHead, Bool.and_eq_true] at hB
    obtain ⟨⟨hr, hf⟩, hB'⟩ := hB
    have hkn : k < n := by simp only [List.length_cons] at hk; omega
    have hr' : k ∈ Region.ready md ops listed := by simpa using hr
    have hst : qOp P ops C k (wpQuiet P ops C Lq l) a := by unfold qOp; simp only [h0]; exact h
    obtain ⟨v, hy, hK⟩ := yieldsIn_of_qOp h0 hst
    exact headAny_first h0 (Region.noSelect_spec hsel) hs hc hn hkn (fun listed' a' hL => seqB_ready hL.1) l.length listed a inv (Region.free_spec h0 hf) hr' hy
      (headAny_lex hsel hs hc hn l (k + 1) _ _ (fun j hj => by have := hl (j + 1) (by simp; omega); simpa [Nat.add_assoc, Nat.add_comm 1 j] using this) (by simp only [List.length_cons] at hk; omega) (inv.set hr' hkn) hB' hK)

/-- The rule. -/
theorem wp_quiet_tail_in {id : Nat} {Q : Exit → Act → World → Prop} {a : Act} {w : World} {l : List Oper} (n : Nat) (hm : P.follows .mixedOrders = true) (hB : Region.lexTailB .any l.toArray n = true) (hC : C w.drew)
    (h : wpQuiet P l.toArray C (fun a' => ∀ w', C w' → wpList P l.toArray Q (l.drop n) a' w') (l.take n) a) : (Code.region id l.toArray true).wp P Q a w := by
  simp only [Region.lexTailB, Bool.and_eq_true, decide_eq_true_eq] at hB
  obtain ⟨⟨⟨⟨hsel, hn⟩, hs⟩, hc⟩, hlex⟩ := hB
  have hn' : n < l.length := by simpa using hn
  have htl : (l.take n).length = n := by simp; omega
  have hdl : (l.drop n).length = l.toArray.size - n := by simp
  have inv0 : HeadInv .any l.toArray n (Array.replicate l.toArray.size false) :=
    ⟨by simp, fun j oj _ hl => (by rw [getD_replicate_false] at hl; cases hl), fun t _ ht => getD_in (by simpa using ht) (getD_replicate_false _ _)⟩
  have H := headAny_lex (C := C) (md := .any) (g := l.toArray.size - n) hsel hs hc hn (l.take n) 0 _ a (fun j hj => by
    have hj' : j < n := by rw [htl] at hj; exact hj
    simp [hj']) (by simpa using htl) inv0 (by rw [htl]; exact hlex) h
  refine wp_region_any hm ?_
  have := headAny_any (Q' := Q) (g := l.toArray.size - n) (fun listed a' w' hw' hL => by
    have := wpAny_of_seq (md := .any) (Q' := Q) (l.drop n) n listed a' w' (fun j => by simp [List.getElem?_drop]) (by rw [hdl]; exact hL.1) (hL.2 w' hw')
    rwa [hdl] at this) _ _ _ H w.drew hC
  rw [htl, show n + (l.toArray.size - n) = l.toArray.size by omega] at this
  exact this

/-- The rule at the class 'w after some draws'. -/
theorem wp_quiet_tail {id : Nat} {Q : Exit → Act → World → Prop} {a : Act} {w : World} {l : List Oper} (n : Nat) (hm : P.follows .mixedOrders = true) (hB : Region.lexTailB .any l.toArray n = true)
    (h : wpQuiet P l.toArray (fun w' => ∃ k, w' = w.drewN k) (fun a' => ∀ w', (∃ k, w' = w.drewN k) → wpList P l.toArray Q (l.drop n) a' w') (l.take n) a) : (Code.region id l.toArray true).wp P Q a w :=
  wp_quiet_tail_in (C := fun w' => ∃ k, w' = w.drewN k) n hm hB ⟨1, rfl⟩ h

/-- Draws stand outermost. -/
@[go_sem, simp] theorem setCell_drewN (w : World) (n : Nat) (a : Addr) (v : Value) : (w.drewN n).setCell a v = (w.setCell a v).drewN n := rfl
@[go_sem, simp] theorem alloc_drewN (w : World) (n : Nat) (o : Obj) : (w.drewN n).alloc o = (w.alloc o).drewN n := rfl

/-- Numbers of blocks: what came later is greater (so many steps at once: a rule's condition is followed two steps deep alone). -/
@[go_sem] theorem ltA0 {n : Nat} : (n < n + 1) = True := eq_true (by omega)
@[go_sem] theorem eqA0 {n : Nat} : (n = n + 1) = False := eq_false (by omega)
@[go_sem] theorem qeA0 {n : Nat} : (n + 1 = n) = False := eq_false (by omega)
@[go_sem] theorem ltA1 {n k1 : Nat} : (n < n + 1 + k1) = True := eq_true (by omega)
@[go_sem] theorem eqA1 {n k1 : Nat} : (n = n + 1 + k1) = False := eq_false (by omega)
@[go_sem] theorem qeA1 {n k1 : Nat} : (n + 1 + k1 = n) = False := eq_false (by omega)
@[go_sem] theorem ltB1 {b n k1 : Nat} (h : b < n) : (b < n + k1) = True := eq_true (by omega)
@[go_sem] theorem eqB1 {b n k1 : Nat} (h : b < n) : (b = n + k1) = False := eq_false (by omega)
@[go_sem] theorem qeB1 {b n k1 : Nat} (h : b < n) : (n + k1 = b) = False := eq_false (by omega)
@[go_sem] theorem ltA2 {n k1 k2 : Nat} : (n < n + 1 + k1 + k2) = True := eq_true (by omega)
@[go_sem] theorem eqA2 {n k1 k2 : Nat} : (n = n + 1 + k1 + k2) = False := eq_false (by omega)
@[go_sem] theorem qeA2 {n k1 k2 : Nat} : (n + 1 + k1 + k2 = n) = False := eq_false (by omega)
@[go_sem] theorem ltB2 {b n k1 k2 : Nat} (h : b < n) : (b < n + k1 + k2) = True := eq_true (by omega)
@[go_sem] theorem eqB2 {b n k1 k2 : Nat} (h : b < n) : (b = n + k1 + k2) = False := eq_false (by omega)
@[go_sem] theorem qeB2 {b n k1 k2 : Nat} (h : b < n) : (n + k1 + k2 = b) = False := eq_false (by omega)
@[go_sem] theorem ltA3 {n k1 k2 k3 : Nat} : (n < n + 1 + k1 + k2 + k3) = True := eq_true (by omega)
@[go_sem] theorem eqA3 {n k1 k2 k3 : Nat} : (n = n + 1 + k1 + k2 + k3) = False := eq_false (by omega)
@[go_sem] theorem qeA3 {n k1 k2 k3 : Nat} : (n + 1 + k1 + k2 + k3 = n) = False := eq_false (by omega)
@[go_sem] theorem ltB3 {b n k1 k2 k3 : Nat} (h : b < n) : (b < n + k1 + k2 + k3) = True := eq_true (by omega)
@[go_sem] theorem eqB3 {b n k1 k2 k3 : Nat} (h : b < n) : (b = n + k1 + k2 + k3) = False := eq_false (by omega)
@[go_sem] theorem qeB3 {b n k1 k2 k3 : Nat} (h : b < n) : (n + k1 + k2 + k3 = b) = False := eq_false (by omega)
@[go_sem] theorem ltA4 {n k1 k2 k3 k4 : Nat} : (n < n + 1 + k1 + k2 + k3 + k4) = True := eq_true (by omega)
@[go_sem] theorem eqA4 {n k1 k2 k3 k4 : Nat} : (n = n + 1 + k1 + k2 + k3 + k4) = False := eq_false (by omega)
@[go_sem] theorem qeA4 {n k1 k2 k3 k4 : Nat} : (n + 1 + k1 + k2 + k3 + k4 = n) = False := eq_false (by omega)
@[go_sem] theorem ltB4 {b n k1 k2 k3 k4 : Nat} (h : b < n) : (b < n + k1 + k2 + k3 + k4) = True := eq_true (by omega)
@[go_sem] theorem eqB4 {b n k1 k2 k3 k4 : Nat} (h : b < n) : (b = n + k1 + k2 + k3 + k4) = False := eq_false (by omega)
@[go_sem] theorem qeB4 {b n k1 k2 k3 k4 : Nat} (h : b < n) : (n + k1 + k2 + k3 + k4 = b) = False := eq_false (by omega)
@[go_sem] theorem ltA5 {n k1 k2 k3 k4 k5 : Nat} : (n < n + 1 + k1 + k2 + k3 + k4 + k5) = True := eq_true (by omega)
@[go_sem] theorem eqA5 {n k1 k2 k3 k4 k5 : Nat} : (n = n + 1 + k1 + k2 + k3 + k4 + k5) = False := eq_false (by omega)
@[go_sem] theorem qeA5 {n k1 k2 k3 k4 k5 : Nat} : (n + 1 + k1 + k2 + k3 + k4 + k5 = n) = False := eq_false (by omega)
@[go_sem] theorem ltB5 {b n k1 k2 k3 k4 k5 : Nat} (h : b < n) : (b < n + k1 + k2 + k3 + k4 + k5) = True := eq_true (by omega)
@[go_sem] theorem eqB5 {b n k1 k2 k3 k4 k5 : Nat} (h : b < n) : (b = n + k1 + k2 + k3 + k4 + k5) = False := eq_false (by omega)
@[go_sem] theorem qeB5 {b n k1 k2 k3 k4 k5 : Nat} (h : b < n) : (n + k1 + k2 + k3 + k4 + k5 = b) = False := eq_false (by omega)
@[go_sem] theorem ltA6 {n k1 k2 k3 k4 k5 k6 : Nat} : (n < n + 1 + k1 + k2 + k3 + k4 + k5 + k6) = True := eq_true (by omega)
@[go_sem] theorem eqA6 {n k1 k2 k3 k4 k5 k6 : Nat} : (n = n + 1 + k1 + k2 + k3 + k4 + k5 + k6) = False := eq_false (by omega)
@[go_sem] theorem qeA6 {n k1 k2 k3 k4 k5 k6 : Nat} : (n + 1 + k1 + k2 + k3 + k4 + k5 + k6 = n) = False := eq_false (by omega)
@[go_sem] theorem ltB6 {b n k1 k2 k3 k4 k5 k6 : Nat} (h : b < n) : (b < n + k1 + k2 + k3 + k4 + k5 + k6) = True := eq_true (by omega)
@[go_sem] theorem eqB6 {b n k1 k2 k3 k4 k5 k6 : Nat} (h : b < n) : (b = n + k1 + k2 + k3 + k4 + k5 + k6) = False := eq_false (by omega)
@[go_sem] theorem qeB6 {b n k1 k2 k3 k4 k5 k6 : Nat} (h : b < n) : (n + k1 + k2 + k3 + k4 + k5 + k6 = b) = False := eq_false (by omega)
@[go_sem] theorem ltA7 {n k1 k2 k3 k4 k5 k6 k7 : Nat} : (n < n + 1 + k1 + k2 + k3 + k4 + k5 + k6 + k7) = True := eq_true (by omega)
@[go_sem] theorem eqA7 {n k1 k2 k3 k4 k5 k6 k7 : Nat} : (n = n + 1 + k1 + k2 + k3 + k4 + k5 + k6 + k7) = False := eq_false (by omega)
@[go_sem] theorem qeA7 {n k1 k2 k3 k4 k5 k6 k7 : Nat} : (n + 1 + k1 + k2 + k3 + k4 + k5 + k6 + k7 = n) = False := eq_false (by omega)
@[go_sem] theorem ltB7 {b n k1 k2 k3 k4 k5 k6 k7 : Nat} (h : b < n) : (b < n + k1 + k2 + k3 + k4 + k5 + k6 + k7) = True := eq_true (by omega)
@[go_sem] theorem eqB7 {b n k1 k2 k3 k4 k5 k6 k7 : Nat} (h : b < n) : (b = n + k1 + k2 + k3 + k4 + k5 + k6 + k7) = False := eq_false (by omega)
@[go_sem] theorem qeB7 {b n k1 k2 k3 k4 k5 k6 k7 : Nat} (h : b < n) : (n + k1 + k2 + k3 + k4 + k5 + k6 + k7 = b) = False := eq_false (by omega)
@[go_sem] theorem ltA8 {n k1 k2 k3 k4 k5 k6 k7 k8 : Nat} : (n < n + 1 + k1 + k2 + k3 + k4 + k5 + k6 + k7 + k8) = True := eq_true (by omega)
@[go_sem] theorem eqA8 {n k1 k2 k3 k4 k5 k6 k7 k8 : Nat} : (n = n + 1 + k1 + k2 + k3 + k4 + k5 + k6 + k7 + k8) = False := eq_false (by omega)
@[go_sem] theorem qeA8 {n k1 k2 k3 k4 k5 k6 k7 k8 : Nat} : (n + 1 + k1 + k2 + k3 + k4 + k5 + k6 + k7 + k8 = n) = False := eq_false (by omega)
@[go_sem] theorem ltB8 {b n k1 k2 k3 k4 k5 k6 k7 k8 : Nat} (h : b < n) : (b < n + k1 + k2 + k3 + k4 + k5 + k6 + k7 + k8) = True := eq_true (by omega)
@[go_sem] theorem eqB8 {b n k1 k2 k3 k4 k5 k6 k7 k8 : Nat} (h : b < n) : (b = n + k1 + k2 + k3 + k4 + k5 + k6 + k7 + k8) = False := eq_false (by omega)
@[go_sem] theorem qeB8 {b n k1 k2 k3 k4 k5 k6 k7 k8 : Nat} (h : b < n) : (n + k1 + k2 + k3 + k4 + k5 + k6 + k7 + k8 = b) = False := eq_false (by omega)
@[go_sem] theorem ltA9 {n k1 k2 k3 k4 k5 k6 k7 k8 k9 : Nat} : (n < n + 1 + k1 + k2 + k3 + k4 + k5 + k6 + k7 + k8 + k9) = True := eq_true (by omega)
@[go_sem] theorem eqA9 {n k1 k2 k3 k4 k5 k6 k7 k8 k9 : Nat} : (n = n + 1 + k1 + k2 + k3 + k4 + k5 + k6 + k7 + k8 + k9) = False := eq_false (by omega)
@[go_sem] theorem qeA9 {n k1 k2 k3 k4 k5 k6 k7 k8 k9 : Nat} : (n + 1 + k1 + k2 + k3 + k4 + k5 + k6 + k7 + k8 + k9 = n) = False := eq_false (by omega)
@[go_sem] theorem ltB9 {b n k1 k2 k3 k4 k5 k6 k7 k8 k9 : Nat} (h : b < n) : (b < n + k1 + k2 + k3 + k4 + k5 + k6 + k7 + k8 + k9) = True := eq_true (by omega)
@[go_sem] theorem eqB9 {b n k1 k2 k3 k4 k5 k6 k7 k8 k9 : Nat} (h : b < n) : (b = n + k1 + k2 + k3 + k4 + k5 + k6 + k7 + k8 + k9) = False := eq_false (by omega)
@[go_sem] theorem qeB9 {b n k1 k2 k3 k4 k5 k6 k7 k8 k9 : Nat} (h : b < n) : (n + k1 + k2 + k3 + k4 + k5 + k6 + k7 + k8 + k9 = b) = False := eq_false (by omega)
@[go_sem] theorem ltA10 {n k1 k2 k3 k4 k5 k6 k7 k8 k9 k10 : Nat} : (n < n + 1 + k1 + k2 + k3 + k4 + k5 + k6 + k7 + k8 + k9 + k10) = True := eq_true (by omega)
@[go_sem] theorem eqA10 {n k1 k2 k3 k4 k5 k6 k7 k8 k9 k10 : Nat} : (n = n + 1 + k1 + k2 + k3 + k4 + k5 + k6 + k7 + k8 + k9 + k10) = False := eq_false (by omega)
@[go_sem] theorem qeA10 {n k1 k2 k3 k4 k5 k6 k7 k8 k9 k10 : Nat} : (n + 1 + k1 + k2 + k3 + k4 + k5 + k6 + k7 + k8 + k9 + k10 = n) = False := eq_false (by omega)
@[go_sem] theorem ltB10 {b n k1 k2 k3 k4 k5 k6 k7 k8 k9 k10 : Nat} (h : b < n) : (b < n + k1 + k2 + k3 + k4 + k5 + k6 + k7 + k8 + k9 + k10) = True := eq_true (by omega)
@[go_sem] theorem eqB10 {b n k1 k2 k3 k4 k5 k6 k7 k8 k9 k10 : Nat} (h : b < n) : (b = n + k1 + k2 + k3 + k4 + k5 + k6 + k7 + k8 + k9 + k10) = False := eq_false (by omega)
@[go_sem] theorem qeB10 {b n k1 k2 k3 k4 k5 k6 k7 k8 k9 k10 : Nat} (h : b < n) : (n + k1 + k2 + k3 + k4 + k5 + k6 + k7 + k8 + k9 + k10 = b) = False := eq_false (by omega)
@[go_sem] theorem ltA11 {n k1 k2 k3 k4 k5 k6 k7 k8 k9 k10 k11 : Nat} : (n < n + 1 + k1 + k2 + k3 + k4 + k5 + k6 + k7 + k8 + k9 + k10 + k11) = True := eq_true (by omega)
@[go_sem] theorem eqA11 {n k1 k2 k3 k4 k5 k6 k7 k8 k9 k10 k11 : Nat} : (n = n + 1 + k1 + k2 + k3 + k4 + k5 + k6 + k7 + k8 + k9 + k10 + k11) = False := eq_false (by omega)
@[go_sem] theorem qeA11 {n k1 k2 k3 k4 k5 k6 k7 k8 k9 k10 k11 : Nat} : (n + 1 + k1 + k2 + k3 + k4 + k5 + k6 + k7 + k8 + k9 + k10 + k11 = n) = False := eq_false (by omega)
@[go_sem] theorem ltB11 {b n k1 k2 k3 k4 k5 k6 k7 k8 k9 k10 k11 : Nat} (h : b < n) : (b < n + k1 + k2 + k3 + k4 + k5 + k6 + k7 + k8 + k9 + k10 + k11) = True := eq_true (by omega)
@[go_sem] theorem eqB11 {b n k1 k2 k3 k4 k5 k6 k7 k8 k9 k10 k11 : Nat} (h : b < n) : (b = n + k1 + k2 + k3 + k4 + k5 + k6 + k7 + k8 + k9 + k10 + k11) = False := eq_false (by omega)
@[go_sem] theorem qeB11 {b n k1 k2 k3 k4 k5 k6 k7 k8 k9 k10 k11 : Nat} (h : b < n) : (n + k1 + k2 + k3 + k4 + k5 + k6 + k7 + k8 + k9 + k10 + k11 = b) = False := eq_false (by omega)
@[go_sem] theorem ltA12 {n k1 k2 k3 k4 k5 k6 k7 k8 k9 k10 k11 k12 : Nat} : (n < n + 1 + k1 + k2 + k3 + k4 + k5 + k6 + k7 + k8 + k9 + k10 + k11 + k12) = True := eq_true (by omega)
@[go_sem] theorem eqA12 {n k1 k2 k3 k4 k5 k6 k7 k8 k9 k10 k11 k12 : Nat} : (n = n + 1 + k1 + k2 + k3 + k4 + k5 + k6 + k7 + k8 + k9 + k10 + k11 + k12) = False := eq_false (by omega)
@[go_sem] theorem qeA12 {n k1 k2 k3 k4 k5 k6 k7 k8 k9 k10 k11 k12 : Nat} : (n + 1 + k1 + k2 + k3 + k4 + k5 + k6 + k7 + k8 + k9 + k10 + k11 + k12 = n) = False := eq_false (by omega)
@[go_sem] theorem ltB12 {b n k1 k2 k3 k4 k5 k6 k7 k8 k9 k10 k11 k12 : Nat} (h : b < n) : (b < n + k1 + k2 + k3 + k4 + k5 + k6 + k7 + k8 + k9 + k10 + k11 + k12) = True := eq_true (by omega)
@[go_sem] theorem eqB12 {b n k1 k2 k3 k4 k5 k6 k7 k8 k9 k10 k11 k12 : Nat} (h : b < n) : (b = n + k1 + k2 + k3 + k4 + k5 + k6 + k7 + k8 + k9 + k10 + k11 + k12) = False := eq_false (by omega)
@[go_sem] theorem qeB12 {b n k1 k2 k3 k4 k5 k6 k7 k8 k9 k10 k11 k12 : Nat} (h : b < n) : (n + k1 + k2 + k3 + k4 + k5 + k6 + k7 + k8 + k9 + k10 + k11 + k12 = b) = False := eq_false (by omega)

/-- What a world has grown by: new blocks, and the count of draws. -/
structure Gr where
  os : List Obj
  n : Nat
instance : Nonempty Gr := ⟨⟨[], 0⟩⟩

/-- A world with blocks behind it, and its draws at n. -/
def ext (w : World) (g : Gr) : World := { w with heap := w.heap ++ g.os.toArray, drawn := g.n }

/-- A world that has grown: new blocks alone, and draws. -/
def Ext (w w' : World) : Prop := ∃ g, w' = ext w g

@[go_sem, simp] theorem size_ext (w : World) (g : Gr) : (ext w g).heap.size = w.heap.size + g.os.length := by simp [ext]
theorem heap_ext (w : World) (g : Gr) (k : Nat) (h : k < w.heap.size) : (ext w g).heap[k]? = w.heap[k]? := by
  simp [ext, Array.getElem?_append, h]
@[go_sem, simp] theorem cell?_ext (w : World) (g : Gr) (b o : Nat) (h : b < w.heap.size) : (ext w g).cell? ⟨b, o, none⟩ = w.cell? ⟨b, o, none⟩ := by
  unfold World.cell?; rw [heap_ext w g b h]
@[go_sem, simp] theorem frozen?_ext (w : World) (g : Gr) (b o : Nat) (h : b < w.heap.size) : (ext w g).frozen? ⟨b, o, none⟩ = w.frozen? ⟨b, o, none⟩ := by
  unfold World.frozen?; rw [heap_ext w g b h]
theorem ext_ext (w : World) (g g' : Gr) : ext (ext w g) g' = ext w ⟨g.os ++ g'.os, g'.n⟩ := by simp [ext]
@[go_sem, simp] theorem drewN_ext (w : World) (g : Gr) (m : Nat) : (ext w g).drewN m = ext w ⟨g.os, g.n + m⟩ := rfl
@[go_sem, simp] theorem drew_ext (w : World) (g : Gr) : (ext w g).drew = ext w ⟨g.os, g.n + 1⟩ := rfl
@[go_sem, simp] theorem ext_drewN (w : World) (g : Gr) (m : Nat) : ext (w.drewN m) g = ext w g := rfl
@[go_sem, simp] theorem ext_drew (w : World) (g : Gr) : ext w.drew g = ext w g := rfl
/-- A store to what was there goes ahead of the growth. -/
@[go_sem, simp] theorem setCell_ext (w : World) (g : Gr) (b o : Nat) (v : Value) (h : b < w.heap.size) : (ext w g).setCell ⟨b, o, none⟩ v = ext (w.setCell ⟨b, o, none⟩ v) g := by
  unfold ext World.setCell
  congr 1
  apply Array.ext_getElem?
  intro i
  simp only [Array.getElem?_modify, Array.getElem?_append, Array.size_modify]
  by_cases hi : b = i
  · subst hi; simp [h]
  · simp [hi]

theorem Ext.refl (w : World) : Ext w w := ⟨⟨[], w.drawn⟩, by simp [ext]⟩
theorem Ext.of_below {w w' : World} (h : Below w.heap.size w w') : Ext w w' := by
  obtain ⟨h1, h2, h3, h4, h5⟩ := h
  refine ⟨⟨(w'.heap.extract w.heap.size w'.heap.size).toList, w'.drawn⟩, ?_⟩
  obtain ⟨heap', tape', drawn', os', output'⟩ := w'
  simp only at h1 h2 h3 h4 h5
  subst h1; subst h2; subst h3
  unfold ext
  congr 1
  apply Array.ext_getElem?
  intro i
  by_cases hi : i < w.heap.size
  · rw [h5 i hi]; simp [Array.getElem?_append, hi]
  · simp only [Array.getElem?_append, hi, if_false, Array.toArray_toList]
    rw [Array.getElem?_extract]
    simp only [Nat.min_self]
    split
    · congr 1; omega
    · rw [Array.getElem?_eq_none (by omega)]
theorem Ext.below {w w' : World} (h : Ext w w') : Below w.heap.size w w' := by
  obtain ⟨g, rfl⟩ := h
  exact ⟨rfl, rfl, rfl, by simp, fun k hk => heap_ext w g k hk⟩
theorem Ext.trans {a b c : World} (h : Ext a b) (k : Ext b c) : Ext a c := by
  obtain ⟨g, rfl⟩ := h
  obtain ⟨g', rfl⟩ := k
  exact ⟨_, ext_ext ..⟩
theorem below_ext {B : Nat} {a w : World} (h : Below B a w) (hB : B ≤ w.heap.size) (g : Gr) : Below B a (ext w g) :=
  h.trans ((Ext.below ⟨g, rfl⟩).mono hB)
theorem below_drewN' {B : Nat} {a w : World} (h : Below B a w) (n : Nat) : Below B a (w.drewN n) := h.trans ⟨rfl, rfl, rfl, Nat.le_refl _, fun _ _ => rfl⟩

/-- The rules at the class 'w, grown'. -/
theorem wp_grow_tail {id : Nat} {Q : Exit → Act → World → Prop} {a : Act} {w : World} {l : List Oper} (n : Nat) (hm : P.follows .mixedOrders = true) (hB : Region.lexTailB .any l.toArray n = true)
    (h : wpQuiet P l.toArray (fun w' => ∃ g, w' = ext w g) (fun a' => ∀ w', (∃ g, w' = ext w g) → wpList P l.toArray Q (l.drop n) a' w') (l.take n) a) : (Code.region id l.toArray true).wp P Q a w :=
  wp_quiet_tail_in (C := fun w' => ∃ g, w' = ext w g) n hm hB ⟨⟨[], w.drawn + 1⟩, by simp [ext]⟩ h
theorem wp_grow {id : Nat} {Q : Exit → Act → World → Prop} {a : Act} {w : World} {l : List Oper} (hm : P.follows .mixedOrders = true) (hB : Region.lexB .any l.toArray = true)
    (h : wpQuiet P l.toArray (fun w' => ∃ g, w' = ext w g) (fun a' => ∀ w', (∃ g, w' = ext w g) → Q .normal a' w') l a) : (Code.region id l.toArray true).wp P Q a w :=
  wp_region_quiet (C := fun w' => ∃ g, w' = ext w g) hm hB ⟨⟨[], w.drawn + 1⟩, by simp [ext]⟩ (by simpa using h)
/-- A callee that only grows the world, met in a world that has grown. -/
theorem calls_grow {f : FuncId} {args : Array Value} {w : World} {g : Gr} {v : Value} (h : Calls P f args (ext w g) fun e w' => e = .returned v ∧ Ext (ext w g) w') :
    Calls P f args (ext w g) fun e w' => e = .returned v ∧ ∃ g', w' = ext w g' :=
  h.mono fun _ _ ⟨he, _, hw⟩ => ⟨he, _, hw.trans (ext_ext _ _ _)⟩

/-! Whole blocks: what they hold, and how they are set. -/
theorem heap_at (w : World) (o : Obj) (n : Nat) (hn : n = w.heap.size) : (w.alloc o).heap[n]? = some o := by subst hn; exact heap_alloc_last w o
theorem heap_past (w : World) (o : Obj) (n : Nat) (hn : n < w.heap.size) : (w.alloc o).heap[n]? = w.heap[n]? := by
  show (w.heap.push o)[n]? = _
  rw [Array.getElem?_push, if_neg (by omega)]
theorem heap_drewN' (w : World) (n k : Nat) : (w.drewN n).heap[k]? = w.heap[k]? := rfl
theorem setRow_drewN (w : World) (n g : Nat) (c : Array Value) : (w.drewN n).setRow g c = (w.setRow g c).drewN n := rfl
theorem setRow_drew (w : World) (g : Nat) (c : Array Value) : w.drew.setRow g c = (w.setRow g c).drew := rfl
theorem setRow_alloc_at (w : World) (c c' : Array Value) (t : TypeId) (n : Nat) (hn : n = w.heap.size) : (w.alloc (.cells c t)).setRow n c' = w.alloc (.cells c' t) := by
  subst hn; exact World.setRow_alloc_new w c c' t
theorem setRow_alloc_past (w : World) (c : Array Value) (o : Obj) (n : Nat) (hn : n < w.heap.size) : (w.alloc o).setRow n c = (w.setRow n c).alloc o := by
  simp only [World.setRow, World.alloc]
  congr 1
  apply Array.ext_getElem?
  intro i
  simp only [Array.getElem?_modify, Array.getElem?_push, Array.size_modify]
  by_cases h : n = i
  · subst h
    rw [if_pos rfl, if_neg (by omega), if_neg (by omega), if_pos rfl]
  · rw [if_neg h]
    by_cases h2 : i = w.heap.size
    · rw [if_pos h2, if_pos h2]
    · rw [if_neg h2, if_neg h2, if_neg h]
theorem setRow_ext (w : World) (g : Gr) (c : Array Value) (n : Nat) (hn : n < w.heap.size) : (ext w g).setRow n c = ext (w.setRow n c) g := by
  simp only [World.setRow, ext]
  congr 1
  apply Array.ext_getElem?
  intro i
  simp only [Array.getElem?_modify, Array.getElem?_append, Array.size_modify]
  by_cases h : n = i
  · subst h; simp [hn]
  · simp [h]
theorem size_alloc (w : World) (o : Obj) : (w.alloc o).heap.size = w.heap.size + 1 := by show (w.heap.push o).size = _; simp
theorem size_drewN' (w : World) (n : Nat) : (w.drewN n).heap.size = w.heap.size := rfl
end Go.Proofs.Ytblhnmahkabmiaa
