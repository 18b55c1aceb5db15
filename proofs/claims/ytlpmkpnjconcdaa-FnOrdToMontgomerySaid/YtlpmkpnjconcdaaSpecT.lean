/-
  What is proved here: what the reference's doubling modulo the order, 256 times, returns.
  Conditions: those of each theorem.
-/
import Derived.Test.YtlpmkpnjconcdaaRows
import Derived.Test.YtlpmkpnjconcdaaSpecS
import Derived.WalkKit
import Derived.WalkSpells
import Derived.Outline
import Derived.Handy
import Derived.LoopTactic
import Derived.Laws.Rows
import Derived.Laws.Tables
import Derived.Lib.Hide
namespace Go.Proofs.Ytlpmkpnjconcdaa
open Go.RowKit
set_option linter.unusedSimpArgs false
set_option linter.unusedVariables false

/-- k doublings modulo the order. -/
def dbl (a : Int) : Nat → Int
  | 0 => a
  | k + 1 => ordAdd (dbl a k) (dbl a k)
theorem dbl_bd (a : Int) (h0 : 0 ≤ a) (h1 : a < ordN) : ∀ k, 0 ≤ dbl a k ∧ dbl a k < ordN
  | 0 => ⟨h0, h1⟩
  | k + 1 => ordAdd_bd _ _ (dbl_bd a h0 h1 k).1 (dbl_bd a h0 h1 k).2 (dbl_bd a h0 h1 k).1 (dbl_bd a h0 h1 k).2
theorem dbl_mod (a : Int) : ∀ k, ∃ q : Int, dbl a k = a * 2 ^ k + q * ordN
  | 0 => ⟨0, by simp [dbl]⟩
  | k + 1 => by
    obtain ⟨q, h⟩ := dbl_mod a k
    have e : a * 2 ^ (k + 1) = 2 * (a * 2 ^ k) := by rw [Int.pow_succ, ← Int.mul_assoc, Int.mul_comm]
    simp only [dbl, ordAdd]
    generalize dbl a k = d at h ⊢
    generalize a * 2 ^ k = x at h e
    rw [e]
    by_cases hc : d + d < ordN
    · rw [if_pos hc]
      exact ⟨2 * q, by rw [h, Int.mul_assoc]; omega⟩
    · rw [if_neg hc]
      exact ⟨2 * q - 1, by rw [h, Int.sub_mul, Int.mul_assoc]; omega⟩

set_option maxHeartbeats 4000000 in
set_option maxRecDepth 100000 in
theorem OrdShifted_any (a : Int) (ha0 : 0 ≤ a) (ha : a < ordN) (w : World) :
    Calls Try.prog 8 #[E8 a] w fun e w' => e = .returned (E8 (dbl a 256)) ∧ Ext w w' := by
  have hbd := dbl_bd a ha0 ha
  have HBD := Lib.hid hbd
  clear hbd
  have he8 : ∀ S : Int, E8 S = .agg ((digs 8 S).map (Value.int .i64)).toArray := fun _ => rfl
  have hsz : ∀ S : Int, (((digs 8 S).map (Value.int .i64)).toArray).size = 8 := fun S => by simp [digs_length]
  have HE := Lib.hid (And.intro he8 hsz)
  clear he8 hsz
  obtain ⟨d0, d1, d2, d3, d4, d5, d6, d7, hd, he, _⟩ := E8_open a
  rw [he]
  have HD := Lib.hid hd
  clear hd he
  go_enter Try.func8, Try.ntmps8
  go_wp2
  go_loopw [3] (fun i wr => ∃ k : Nat, k ≤ 256 ∧ i = .int .i64 k ∧ wr.heap[w.heap.size]? = some (.cells ((digs 8 (dbl a k)).map (Value.int .i64)).toArray 25 (0, 0)) ∧ wr.heap[w.heap.size + 1]? = some (.cells #[.int .i64 0, .int .i64 0, .int .i64 0, .int .i64 0, .int .i64 0, .int .i64 0, .int .i64 0, .int .i64 0] 25 (0, 0)) ∧ Below w.heap.size w wr) (fun i _ => 256 - (intOf i).toNat)
  case atStart =>
    refine ⟨0, by omega, rfl, ?_, ?_, ((Below.refl _ w).alloc (Nat.le_refl _) _).alloc (by simp) _⟩
    · rw [heap_past _ _ _ (by simp), heap_at _ _ _ rfl]
      show _ = some (Obj.cells ((digs 8 a).map (Value.int .i64)).toArray _ _)
      rw [HD.out]
      rfl
    · rw [heap_at _ _ _ (by simp)]
  case round =>
    obtain ⟨k, hk, rfl, h1, h2, hB⟩ := hrel
    obtain ⟨x0, x1, x2, x3, x4, x5, x6, x7, hx, ex, _⟩ := E8_open (dbl a k)
    obtain ⟨y0, y1, y2, y3, y4, y5, y6, y7, hy, ey, _⟩ := E8_open (dbl a (k + 1))
    rw [hx] at h1
    have hsz : w.heap.size < wr.heap.size := by
      rcases Nat.lt_or_ge w.heap.size wr.heap.size with h | h
      · exact h
      · rw [Array.getElem?_eq_none h] at h1; cases h1
    have hsz2 : w.heap.size + 1 < wr.heap.size := by
      rcases Nat.lt_or_ge (w.heap.size + 1) wr.heap.size with h | h
      · exact h
      · rw [Array.getElem?_eq_none h] at h2; cases h2
    have h1' : wr.heap[w.heap.size]? = some (.cells #[.int .i64 x0, .int .i64 x1, .int .i64 x2, .int .i64 x3, .int .i64 x4, .int .i64 x5, .int .i64 x6, .int .i64 x7] 25 (0, 0)) := h1
    have c1 : ∀ w, Calls Try.prog 15 #[.agg #[.int .i64 x0, .int .i64 x1, .int .i64 x2, .int .i64 x3, .int .i64 x4, .int .i64 x5, .int .i64 x6, .int .i64 x7], .agg #[.int .i64 x0, .int .i64 x1, .int .i64 x2, .int .i64 x3, .int .i64 x4, .int .i64 x5, .int .i64 x6, .int .i64 x7]] w fun e w' => e = .returned (.agg #[.int .i64 y0, .int .i64 y1, .int .i64 y2, .int .i64 y3, .int .i64 y4, .int .i64 y5, .int .i64 y6, .int .i64 y7]) ∧ Ext w w' := fun w => by
      have h := sumBelow_any (dbl a k) (dbl a k) (HBD.out k).1 (HBD.out k).2 (HBD.out k).1 (HBD.out k).2 w
      rw [ex] at h
      have e : ordAdd (dbl a k) (dbl a k) = dbl a (k + 1) := rfl
      rw [e, ey] at h
      exact h
    have C1 := Lib.hid c1
    have H1 := Lib.hid h1'
    have H2 := Lib.hid h2
    have HY := Lib.hid (And.intro hx (And.intro hy (And.intro ex ey)))
    clear c1 h1 h1' h2 hx hy ex ey
    by_cases hlt : k < 256
    · go_wp2_with (first
        | (refine wpList_load_row rfl 25 _ rfl _ rfl 25 _ (0, 0) _ H1.out Try.underlying25 rfl ?_ ?_; (· kernel_rfl))
        | (go_at_call 15; (with_reducible refine (C1.out _).mono ?_); rintro e w' ⟨rfl, g, rfl⟩)
        | (refine wpList_store_row rfl 25 _ _ rfl _ _ rfl rfl 25 _ ((heap_ext _ _ _ hsz).trans H1.out) (by kernel_rfl) rfl ?_ ?_; (· simp [Value.oneCell'])))
      go_roundw
      case rel =>
        refine ⟨k + 1, by omega, by go_num, ?_, ?_, ?_⟩
        · rw [HY.out.2.1]
          simp only [World.setRow, Array.getElem?_modify]
          rw [heap_ext _ _ _ hsz, H1.out]
          rfl
        · simp only [World.setRow, Array.getElem?_modify]
          rw [if_neg (by omega), heap_ext _ _ _ hsz2, H2.out]
        · exact ⟨hB.os, hB.tape, hB.output, by simp only [World.setRow, Array.size_modify, size_ext]; have := hB.size; omega, fun i hi => by
            simp only [World.setRow, Array.getElem?_modify]
            rw [if_neg (by omega), heap_ext _ _ _ (by omega)]
            exact hB.block i hi⟩
      case measure => simp [intOf]; omega
    · obtain rfl : k = 256 := by omega
      go_wp2_with (first
        | (refine wpList_load_row rfl 25 _ rfl _ rfl 25 _ (0, 0) _ H1.out Try.underlying25 rfl ?_ ?_; (· kernel_rfl))
        | (refine wpList_store_row rfl 25 _ _ rfl _ _ rfl rfl 25 _ H2.out (by kernel_rfl) rfl ?_ ?_; (· simp [Value.oneCell'])))
      refine bodyPost_ret (results_cell_row rfl _ _ _ 25 _ (0, 0) _ rfl (by simp only [World.setRow, Array.getElem?_modify]; rw [H2.out]; rfl) Try.underlying25 rfl (by kernel_rfl)) rfl ⟨?_, ?_⟩
      · rw [HY.out.2.2.1]
      · refine Ext.of_below ⟨hB.os, hB.tape, hB.output, by simp only [World.setRow, Array.size_modify]; exact hB.size, fun i hi => ?_⟩
        simp only [World.setRow, Array.getElem?_modify]
        rw [if_neg (by omega)]
        exact hB.block i hi
end Go.Proofs.Ytlpmkpnjconcdaa
