/-
  What is proved here: words with a carry and a borrow, plain; what it is for a world to be turned in one block alone. No program in sight.
  Conditions: none.
-/
import Derived.Test.YtblhnmahkabmiaaNum
import Derived.Test.YtblhnmahkabmiaaReg
import Derived.Laws.Externs
import Derived.Deep.RegionHeld
import Derived.Laws.BitsAllLaws
import Derived.Laws.Rows
import Derived.Lib.Hide
namespace Go.Proofs.Ytblhnmahkabmiaa
open Go.RowKit
set_option linter.unusedSimpArgs false
set_option linter.unusedVariables false

/-! The difference of two words and a borrow, the borrow behind it; the sum of two words and a carry, the carry behind it. -/
def sbd (x y b : Int) : Int := (((x.toNat + 18446744073709551616 - y.toNat - b.toNat) % 18446744073709551616 : Nat) : Int)
def sbc (x y b : Int) : Int := ((if x.toNat < y.toNat + b.toNat then 1 else 0 : Nat) : Int)
def add (x y b : Int) : Int := (((x.toNat + y.toNat + b.toNat) % 18446744073709551616 : Nat) : Int)
def adc (x y b : Int) : Int := (((x.toNat + y.toNat + b.toNat) / 18446744073709551616 : Nat) : Int)

theorem sbc_bit (x y b : Int) : sbc x y b = 0 ∨ sbc x y b = 1 := by unfold sbc; split <;> simp
theorem sb_spec (x y b : Int) (hx : 0 ≤ x ∧ x < 18446744073709551616) (hy : 0 ≤ y ∧ y < 18446744073709551616) (hb : b = 0 ∨ b = 1) :
    sbd x y b - 18446744073709551616 * sbc x y b = x - y - b ∧ (0 ≤ sbd x y b ∧ sbd x y b < 18446744073709551616) ∧ (sbc x y b = 0 ∨ sbc x y b = 1) := by
  unfold sbd sbc
  refine ⟨?_, by omega, by split <;> simp⟩
  split <;> omega

theorem cell_far {b c : Nat} (h : ¬ b = c) (w : World) (o o' : Nat) (v : Value) : (w.setCell ⟨b, o, none⟩ v).cell? ⟨c, o', none⟩ = w.cell? ⟨c, o', none⟩ :=
  World.cell?_setCell_far w _ _ v h
theorem cell_dn (w : World) (n : Nat) (a : Addr) : (w.drewN n).cell? a = w.cell? a := rfl

theorem quiet_after {P : Program} {f : FuncId} {args : Array Value} {w : World} {n0 n : Nat} {v : Value}
    (h : Calls P f args (w.drewN (n0 + n)) fun e w' => e = .returned v ∧ ∃ m, w' = (w.drewN (n0 + n)).drewN m) : Calls P f args (w.drewN (n0 + n)) fun e w'' => e = .returned v ∧ ∃ k, w'' = w.drewN (n0 + k) :=
  h.mono fun _ _ ⟨he, m, hm⟩ => ⟨he, n + m, by rw [hm, World.drewN_drewN, Nat.add_assoc]⟩

theorem cell_set_none (w : World) (a : Addr) (v : Value) (h : w.cell? a = none) : (w.setCell a v).cell? a = none := by
  unfold World.cell? at h
  simp only [World.setCell, World.cell?, Array.getElem?_modify, ↓reduceIte]
  cases hh : w.heap[a.block]? with
  | none => simp
  | some x =>
    rw [hh] at h
    cases x <;> simp_all
theorem cell_set_isSome (w : World) (a b : Addr) (v : Value) : ((w.setCell a v).cell? b).isSome = (w.cell? b).isSome := by
  by_cases h : a = b
  · subst h
    cases hc : w.cell? a with
    | some u => rw [World.cell?_setCell_same w a v hc]; rfl
    | none => rw [cell_set_none w a v hc]
  · rw [World.cell?_setCell_other w a b v h]
theorem cell_set (w : World) (b o o' : Nat) (v : Value) (h : (w.cell? ⟨b, o, none⟩).isSome = true) : (w.setCell ⟨b, o, none⟩ v).cell? ⟨b, o', none⟩ = if o = o' then some v else w.cell? ⟨b, o', none⟩ := by
  by_cases e : o = o'
  · subst e
    obtain ⟨u, hu⟩ := Option.isSome_iff_exists.1 h
    rw [World.cell?_setCell_same w _ v hu, if_pos rfl]
  · rw [if_neg e, World.cell?_setCell_other]
    simp [e]

/-- The world is turned in block b alone; blocks may have come. -/
def Away (b : Nat) (w w' : World) : Prop := w'.tape = w.tape ∧ w'.os = w.os ∧ w'.output = w.output ∧ w.heap.size ≤ w'.heap.size ∧ ∀ k, k < w.heap.size → k ≠ b → w'.heap[k]? = w.heap[k]?
theorem Away.refl (b : Nat) (w : World) : Away b w w := ⟨rfl, rfl, rfl, Nat.le_refl _, fun _ _ _ => rfl⟩
theorem Away.trans {b : Nat} {u v w : World} (h : Away b u v) (k : Away b v w) : Away b u w :=
  ⟨k.1.trans h.1, k.2.1.trans h.2.1, k.2.2.1.trans h.2.2.1, Nat.le_trans h.2.2.2.1 k.2.2.2.1, fun i hi hb => (k.2.2.2.2 i (Nat.lt_of_lt_of_le hi h.2.2.2.1) hb).trans (h.2.2.2.2 i hi hb)⟩
theorem Away.drewN {b : Nat} {u w : World} (h : Away b u w) (n : Nat) : Away b u (w.drewN n) := h
theorem Away.drew {b : Nat} {u w : World} (h : Away b u w) : Away b u w.drew := h
theorem Away.setCell {b : Nat} {u w : World} (h : Away b u w) (o : Nat) (v : Value) : Away b u (w.setCell ⟨b, o, none⟩ v) :=
  ⟨h.1, h.2.1, h.2.2.1, by simpa [World.setCell] using h.2.2.2.1, fun i hi hb => by
    rw [← h.2.2.2.2 i hi hb]
    simp [World.setCell, Array.getElem?_modify, Ne.symm hb]⟩
theorem Away.ext {b : Nat} {u w : World} (h : Away b u w) (g : Gr) : Away b u (ext w g) :=
  ⟨h.1, h.2.1, h.2.2.1, by rw [size_ext]; have := h.2.2.2.1; omega, fun i hi hb => by
    rw [heap_ext w g i (Nat.lt_of_lt_of_le hi h.2.2.2.1)]; exact h.2.2.2.2 i hi hb⟩
theorem Away.of_below {b B : Nat} {u v : World} (h : Below B u v) (hB : u.heap.size ≤ B) : Away b u v :=
  ⟨h.tape, h.os, h.output, h.size, fun i hi _ => h.block i (Nat.lt_of_lt_of_le hi hB)⟩
theorem Away.below {b B : Nat} {u v : World} (h : Away b u v) (hB : B ≤ b) (hs : B ≤ u.heap.size) : Below B u v :=
  ⟨h.2.1, h.1, h.2.2.1, h.2.2.2.1, fun i hi => h.2.2.2.2 i (by omega) (by omega)⟩
theorem Away.cell {b : Nat} {u v : World} (h : Away b u v) {c : Nat} (hc : c < u.heap.size) (hb : c ≠ b) (o : Nat) : v.cell? ⟨c, o, none⟩ = u.cell? ⟨c, o, none⟩ := by
  unfold World.cell?; rw [h.2.2.2.2 c hc hb]
theorem Away.frozen {b : Nat} {u v : World} (h : Away b u v) {c : Nat} (hc : c < u.heap.size) (hb : c ≠ b) (o : Nat) : v.frozen? ⟨c, o, none⟩ = u.frozen? ⟨c, o, none⟩ := by
  unfold World.frozen?; rw [h.2.2.2.2 c hc hb]
theorem below_trans_at {B : Nat} {u v w : World} (h : Below B u v) (k : Below B v w) : Below B u w := h.trans k
theorem cell_al1 {w : World} {c : Nat} (h : c < w.heap.size) (o : Obj) (i : Nat) : (w.alloc o).cell? ⟨c, i, none⟩ = w.cell? ⟨c, i, none⟩ := by rw [World.cell?_alloc_lt]; exact h
theorem size_al {w : World} {c : Nat} (h : c < w.heap.size) (o : Obj) : c < (w.alloc o).heap.size := by simp; omega
theorem cell_al2 {w : World} {c : Nat} (h : c < w.heap.size) (o o' : Obj) (i : Nat) : ((w.alloc o).alloc o').cell? ⟨c, i, none⟩ = w.cell? ⟨c, i, none⟩ := (cell_al1 (size_al h o) o' i).trans (cell_al1 h o i)
theorem quiet_load_row {P : Program} {o : Oper} {a : Act} {C : World → Prop} {K : Act → Prop} (ty : TypeId) (x : Operand) (ho : o.op = .load ty x)
    (g : Nat) (hx : a.eval x = .pointer (some ⟨g, 0, none⟩)) (t : TypeId) (cs : Array Value) (fr : Nat × Nat) (d : TypeDesc) (hg : ∀ w, C w → w.heap[g]? = some (.cells cs t fr))
    (hu : P.underlying ty = some d) (hd : (match d with | .struct _ | .array _ _ => true | _ => false) = true) (hi : (P.info? ty).map (·.size) = some cs.size)
    (h : K (a.put o.dst (.agg cs))) : o.quiet P a C K :=
  ⟨.agg cs, fun w hw => by
    unfold Oper.quietAt execOp
    simp only [ho, hx, Instr.loadAt, Instr.sureAddr, Sem.run_bind, Sem.run_pure, Result.andThen_ok, run_loadVar_row w g t ty cs fr d (hg w hw) hu hd hi]
    exact ⟨rfl, rfl⟩, h⟩
end Go.Proofs.Ytblhnmahkabmiaa
