/-
  What is proved here: what the reference's reduction modulo the prime returns.
  Conditions: those of each theorem.
-/
import Derived.Test.YtgdjmgcolipcnaaProg
import Derived.Test.YtgdjmgcolipcnaaNumFSpecFaSpecFb
import Derived.WalkKit
import Derived.WalkSpells
import Derived.Outline
import Derived.Handy
import Derived.ProofKit
import Derived.Deep.QuietTactic
import Derived.BigQuiet
import Derived.Lib.Hide
import Derived.OpenShut
namespace Go.Proofs.Ytgdjmgcolipcnaa
open Go Go.RowKit Ecp
set_option linter.unusedSimpArgs false
set_option linter.unusedVariables false

theorem wds_of {w : World} {b : Nat} {l : List Int} (h : Held .i64 w b 0 l) : Wds w b l := fun i x hi => by have := h i x hi; rwa [Nat.zero_add] at this
theorem held_of {w : World} {b : Nat} {l : List Int} (h : Wds w b l) : Held .i64 w b 0 l := fun i x hi => by rw [Nat.zero_add]; exact h i x hi
theorem Held.row' {k : IntKind} {w : World} {b : Nat} {l : List Int} (t : TypeId) (fr : Nat × Nat) (h : w.heap[b]? = some (.cells (l.map (Value.int k)).toArray t fr)) : Held k w b 0 l := by
  intro i x hi
  simp [World.cell?, h, hi]
theorem set8 (w : World) (m : Nat) (f0 f1 f2 f3 f4 f5 f6 f7 : Int) (hF : Free w m 0 8) : Turned m 0 8 w ((((((((w.setCell ⟨m, 0, none⟩ (.int .i64 f0)).setCell ⟨m, 1, none⟩ (.int .i64 f1)).setCell ⟨m, 2, none⟩ (.int .i64 f2)).setCell ⟨m, 3, none⟩ (.int .i64 f3)).setCell ⟨m, 4, none⟩ (.int .i64 f4)).setCell ⟨m, 5, none⟩ (.int .i64 f5)).setCell ⟨m, 6, none⟩ (.int .i64 f6)).setCell ⟨m, 7, none⟩ (.int .i64 f7)) ∧ Held .i64 ((((((((w.setCell ⟨m, 0, none⟩ (.int .i64 f0)).setCell ⟨m, 1, none⟩ (.int .i64 f1)).setCell ⟨m, 2, none⟩ (.int .i64 f2)).setCell ⟨m, 3, none⟩ (.int .i64 f3)).setCell ⟨m, 4, none⟩ (.int .i64 f4)).setCell ⟨m, 5, none⟩ (.int .i64 f5)).setCell ⟨m, 6, none⟩ (.int .i64 f6)).setCell ⟨m, 7, none⟩ (.int .i64 f7)) m 0 [f0, f1, f2, f3, f4, f5, f6, f7] := by
  have h := setCells_turned [.int .i64 f0, .int .i64 f1, .int .i64 f2, .int .i64 f3, .int .i64 f4, .int .i64 f5, .int .i64 f6, .int .i64 f7] w m 0 (fun j hj => by obtain ⟨⟨u, hu⟩, _⟩ := hF j hj; rw [hu]; rfl)
  simp only [World.setCells, Nat.zero_add, Nat.reduceAdd] at h
  refine ⟨h.1, fun i x hi => ?_⟩
  have := h.2 i (.int .i64 x) (by
    have e : ([.int .i64 f0, .int .i64 f1, .int .i64 f2, .int .i64 f3, .int .i64 f4, .int .i64 f5, .int .i64 f6, .int .i64 f7] : List Value) = [f0, f1, f2, f3, f4, f5, f6, f7].map (Value.int .i64) := rfl
    rw [e, List.getElem?_map, hi]; rfl)
  rwa [Nat.zero_add]
theorem set8_frame {v w : World} {m q : Nat} (f0 f1 f2 f3 f4 f5 f6 f7 : Int) (hE : Ext v w) (hm : m < w.heap.size) (hvm : v.heap.size ≤ m) (hF : Free w m 0 8) (hqm : q < m) (hF2 : Free w q 0 8) :
    Ext v ((((((((w.setCell ⟨m, 0, none⟩ (.int .i64 f0)).setCell ⟨m, 1, none⟩ (.int .i64 f1)).setCell ⟨m, 2, none⟩ (.int .i64 f2)).setCell ⟨m, 3, none⟩ (.int .i64 f3)).setCell ⟨m, 4, none⟩ (.int .i64 f4)).setCell ⟨m, 5, none⟩ (.int .i64 f5)).setCell ⟨m, 6, none⟩ (.int .i64 f6)).setCell ⟨m, 7, none⟩ (.int .i64 f7)) ∧ m < ((((((((w.setCell ⟨m, 0, none⟩ (.int .i64 f0)).setCell ⟨m, 1, none⟩ (.int .i64 f1)).setCell ⟨m, 2, none⟩ (.int .i64 f2)).setCell ⟨m, 3, none⟩ (.int .i64 f3)).setCell ⟨m, 4, none⟩ (.int .i64 f4)).setCell ⟨m, 5, none⟩ (.int .i64 f5)).setCell ⟨m, 6, none⟩ (.int .i64 f6)).setCell ⟨m, 7, none⟩ (.int .i64 f7)).heap.size ∧ Held .i64 ((((((((w.setCell ⟨m, 0, none⟩ (.int .i64 f0)).setCell ⟨m, 1, none⟩ (.int .i64 f1)).setCell ⟨m, 2, none⟩ (.int .i64 f2)).setCell ⟨m, 3, none⟩ (.int .i64 f3)).setCell ⟨m, 4, none⟩ (.int .i64 f4)).setCell ⟨m, 5, none⟩ (.int .i64 f5)).setCell ⟨m, 6, none⟩ (.int .i64 f6)).setCell ⟨m, 7, none⟩ (.int .i64 f7)) m 0 [f0, f1, f2, f3, f4, f5, f6, f7] ∧ Free ((((((((w.setCell ⟨m, 0, none⟩ (.int .i64 f0)).setCell ⟨m, 1, none⟩ (.int .i64 f1)).setCell ⟨m, 2, none⟩ (.int .i64 f2)).setCell ⟨m, 3, none⟩ (.int .i64 f3)).setCell ⟨m, 4, none⟩ (.int .i64 f4)).setCell ⟨m, 5, none⟩ (.int .i64 f5)).setCell ⟨m, 6, none⟩ (.int .i64 f6)).setCell ⟨m, 7, none⟩ (.int .i64 f7)) m 0 8 ∧ Free ((((((((w.setCell ⟨m, 0, none⟩ (.int .i64 f0)).setCell ⟨m, 1, none⟩ (.int .i64 f1)).setCell ⟨m, 2, none⟩ (.int .i64 f2)).setCell ⟨m, 3, none⟩ (.int .i64 f3)).setCell ⟨m, 4, none⟩ (.int .i64 f4)).setCell ⟨m, 5, none⟩ (.int .i64 f5)).setCell ⟨m, 6, none⟩ (.int .i64 f6)).setCell ⟨m, 7, none⟩ (.int .i64 f7)) q 0 8 := by
  obtain ⟨hT, hH⟩ := set8 w m f0 f1 f2 f3 f4 f5 f6 f7 hF
  exact ⟨Turned.ext_of_new hE hT hvm, hT.lt hm, hH, hF.heldFree hT hH (Nat.le_refl _) hm, hF2.far hT (by omega) (.inl (by omega))⟩

/-- k words less those of the other list. -/
def dfl (l p : List Int) : Nat → List Int
  | 0 => l
  | k + 1 => (dfl l p k).set k (wrap64 ((dfl l p k).getD k 0 - p.getD k 0))
theorem dfl_length (l p : List Int) : ∀ k, (dfl l p k).length = l.length
  | 0 => rfl
  | k + 1 => by rw [dfl, List.length_set, dfl_length l p k]
theorem dfl8 (e0 e1 e2 e3 e4 e5 e6 e7 p0 p1 p2 p3 p4 p5 p6 p7 : Int) : dfl [e0, e1, e2, e3, e4, e5, e6, e7] [p0, p1, p2, p3, p4, p5, p6, p7] 8 = [wrap64 (e0 - p0), wrap64 (e1 - p1), wrap64 (e2 - p2), wrap64 (e3 - p3), wrap64 (e4 - p4), wrap64 (e5 - p5), wrap64 (e6 - p6), wrap64 (e7 - p7)] := by
  have s0 : dfl [e0, e1, e2, e3, e4, e5, e6, e7] [p0, p1, p2, p3, p4, p5, p6, p7] 0 = [e0, e1, e2, e3, e4, e5, e6, e7] := rfl
  have s1 : dfl [e0, e1, e2, e3, e4, e5, e6, e7] [p0, p1, p2, p3, p4, p5, p6, p7] 1 = [wrap64 (e0 - p0), e1, e2, e3, e4, e5, e6, e7] := by rw [dfl, s0]; rfl
  have s2 : dfl [e0, e1, e2, e3, e4, e5, e6, e7] [p0, p1, p2, p3, p4, p5, p6, p7] 2 = [wrap64 (e0 - p0), wrap64 (e1 - p1), e2, e3, e4, e5, e6, e7] := by rw [dfl, s1]; rfl
  have s3 : dfl [e0, e1, e2, e3, e4, e5, e6, e7] [p0, p1, p2, p3, p4, p5, p6, p7] 3 = [wrap64 (e0 - p0), wrap64 (e1 - p1), wrap64 (e2 - p2), e3, e4, e5, e6, e7] := by rw [dfl, s2]; rfl
  have s4 : dfl [e0, e1, e2, e3, e4, e5, e6, e7] [p0, p1, p2, p3, p4, p5, p6, p7] 4 = [wrap64 (e0 - p0), wrap64 (e1 - p1), wrap64 (e2 - p2), wrap64 (e3 - p3), e4, e5, e6, e7] := by rw [dfl, s3]; rfl
  have s5 : dfl [e0, e1, e2, e3, e4, e5, e6, e7] [p0, p1, p2, p3, p4, p5, p6, p7] 5 = [wrap64 (e0 - p0), wrap64 (e1 - p1), wrap64 (e2 - p2), wrap64 (e3 - p3), wrap64 (e4 - p4), e5, e6, e7] := by rw [dfl, s4]; rfl
  have s6 : dfl [e0, e1, e2, e3, e4, e5, e6, e7] [p0, p1, p2, p3, p4, p5, p6, p7] 6 = [wrap64 (e0 - p0), wrap64 (e1 - p1), wrap64 (e2 - p2), wrap64 (e3 - p3), wrap64 (e4 - p4), wrap64 (e5 - p5), e6, e7] := by rw [dfl, s5]; rfl
  have s7 : dfl [e0, e1, e2, e3, e4, e5, e6, e7] [p0, p1, p2, p3, p4, p5, p6, p7] 7 = [wrap64 (e0 - p0), wrap64 (e1 - p1), wrap64 (e2 - p2), wrap64 (e3 - p3), wrap64 (e4 - p4), wrap64 (e5 - p5), wrap64 (e6 - p6), e7] := by rw [dfl, s6]; rfl
  have s8 : dfl [e0, e1, e2, e3, e4, e5, e6, e7] [p0, p1, p2, p3, p4, p5, p6, p7] 8 = [wrap64 (e0 - p0), wrap64 (e1 - p1), wrap64 (e2 - p2), wrap64 (e3 - p3), wrap64 (e4 - p4), wrap64 (e5 - p5), wrap64 (e6 - p6), wrap64 (e7 - p7)] := by rw [dfl, s7]; rfl
  exact s8
theorem results_E8 {fn : Func} {a b : Nat} {tmps : Array Value} {w : World} {x0 x1 x2 x3 x4 x5 x6 x7 : Int} (h : fn.results = #[.cell a 26]) (ha : tmps[a]? = some (.pointer (some ⟨b, 0, none⟩))) (hh : Held .i64 w b 0 [x0, x1, x2, x3, x4, x5, x6, x7]) :
    (results fn tmps).run Try.prog w = .ok (.agg #[.int .i64 x0, .int .i64 x1, .int .i64 x2, .int .i64 x3, .int .i64 x4, .int .i64 x5, .int .i64 x6, .int .i64 x7]) w := by
  have m0 := hh 0 x0 rfl; have m1 := hh 1 x1 rfl; have m2 := hh 2 x2 rfl; have m3 := hh 3 x3 rfl; have m4 := hh 4 x4 rfl; have m5 := hh 5 x5 rfl; have m6 := hh 6 x6 rfl; have m7 := hh 7 x7 rfl
  simp only [Nat.zero_add] at m0 m1 m2 m3 m4 m5 m6 m7
  simp [results, h, ha, m0, m1, m2, m3, m4, m5, m6, m7, go_sem]

theorem lt_of_cell {w : World} {b o : Nat} {v : Value} (h : w.cell? ⟨b, o, none⟩ = some v) : b < w.heap.size := by
  rcases Nat.lt_or_ge b w.heap.size with h1 | h1
  · exact h1
  · simp [World.cell?, Array.getElem?_eq_none h1] at h
theorem Free.setc {w : World} {b o len : Nat} (h : Free w b o len) (k : Nat) (v : Value) : Free (w.setCell ⟨b, k, none⟩ v) b o len := fun i hi => by
  obtain ⟨⟨u, hu⟩, hf⟩ := h i hi
  refine ⟨Option.isSome_iff_exists.1 (by rw [cell_set_isSome, hu]; rfl), by rw [World.frozen?_setCell]; exact hf⟩

/-- The list behind m rounds of the first loop. -/
def stg (l : List Int) : Nat → List Int
  | 0 => l
  | m + 1 => addAt ((stg l m).set (15 - m) 0) (15 - m) ((stg l m).getD (15 - m) 0)
theorem frozen_row {w : World} {b : Nat} {cs : Array Value} {t : TypeId} (h : w.heap[b]? = some (.cells cs t (0, 0))) (o : Nat) : w.frozen? ⟨b, o, none⟩ = false := by
  simp [World.frozen?, h]
theorem Turned.set1 (w : World) (b k len : Nat) (v : Value) (h : k < len) : Turned b 0 len w (w.setCell ⟨b, k, none⟩ v) :=
  ⟨(Away.refl b w).setCell _ _, fun i hi => by have := hi k h; rw [World.cell?_setCell_other _ _ _ _ (by simp <;> omega)], fun i => by rw [World.frozen?_setCell]⟩
def rdI (w : World) (b j : Nat) : Int := match w.cell? ⟨b, j, none⟩ with
  | some (.int _ x) => x
  | _ => 0
/-- The number that eight words and a carry say. -/
def vOf (w : World) (b : Nat) (c : Int) : Int := val [rdI w b 0, rdI w b 1, rdI w b 2, rdI w b 3, rdI w b 4, rdI w b 5, rdI w b 6, rdI w b 7] + R256 * c
theorem vOf_eq {w : World} {b : Nat} {V : Int} (h : Held .i64 w b 0 (digs 8 V)) : vOf w b (cy 8 V) = V := by
  obtain ⟨d0, d1, d2, d3, d4, d5, d6, d7, hd, _⟩ := E8_open V
  have hv := val_digs 8 V
  rw [hd, pow8] at hv
  rw [hd] at h
  have r : ∀ j x, [d0, d1, d2, d3, d4, d5, d6, d7][j]? = some x → rdI w b j = x := fun j x hx => by
    have := h j x hx
    rw [Nat.zero_add] at this
    simp [rdI, this]
  unfold vOf
  rw [r 0 d0 rfl, r 1 d1 rfl, r 2 d2 rfl, r 3 d3 rfl, r 4 d4 rfl, r 5 d5 rfl, r 6 d6 rfl, r 7 d7 rfl, hv]
  omega
theorem wds16 {w u : World} {b : Nat} {V : Int} {e0 e1 e2 e3 e4 e5 e6 e7 : Int} (hT : Turned b 0 8 (w.alloc (.cells #[.int .i64 0, .int .i64 0, .int .i64 0, .int .i64 0, .int .i64 0, .int .i64 0, .int .i64 0, .int .i64 0, .int .i64 0, .int .i64 0, .int .i64 0, .int .i64 0, .int .i64 0, .int .i64 0, .int .i64 0, .int .i64 0] 53)) u) (hB : Held .i64 u b 0 (digs 8 V)) (hd : digs 8 V = [e0, e1, e2, e3, e4, e5, e6, e7]) (hb : b = w.heap.size := by rfl) :
    Wds u b [e0, e1, e2, e3, e4, e5, e6, e7, 0, 0, 0, 0, 0, 0, 0, 0] := by
  subst hb
  rw [hd] at hB
  intro i x hi
  by_cases h8 : i < 8
  · have := hB i x (by
      rcases (show i = 0 ∨ i = 1 ∨ i = 2 ∨ i = 3 ∨ i = 4 ∨ i = 5 ∨ i = 6 ∨ i = 7 by omega) with rfl | rfl | rfl | rfl | rfl | rfl | rfl | rfl <;> exact hi)
    rwa [Nat.zero_add] at this
  · rw [hT.keep i (fun j hj => by omega)]
    have h0 := Held.row' (k := .i64) (l := [0, 0, 0, 0, 0, 0, 0, 0, 0, 0, 0, 0, 0, 0, 0, 0]) 53 (0, 0) (heap_at w (.cells #[.int .i64 0, .int .i64 0, .int .i64 0, .int .i64 0, .int .i64 0, .int .i64 0, .int .i64 0, .int .i64 0, .int .i64 0, .int .i64 0, .int .i64 0, .int .i64 0, .int .i64 0, .int .i64 0, .int .i64 0, .int .i64 0] 53) w.heap.size rfl)
    have h16 : i < 16 := (List.getElem?_eq_some_iff.1 hi).1
    have := h0 i x (by
      rcases (show i = 8 ∨ i = 9 ∨ i = 10 ∨ i = 11 ∨ i = 12 ∨ i = 13 ∨ i = 14 ∨ i = 15 by omega) with rfl | rfl | rfl | rfl | rfl | rfl | rfl | rfl <;> exact hi)
    rwa [Nat.zero_add] at this
theorem red_frame {w wr u5 u6 u7 : World} {m q : Nat} {V : Int} {ob : Obj} (hE : Ext w wr) (hm : m < wr.heap.size) (hq : q < m) (hH : Held .i64 wr m 0 (digs 8 V)) (hF : Free wr m 0 8) (hF2 : Free wr q 0 8) (h5 : Turned wr.heap.size 0 8 (wr.alloc ob) u5) (h6 : Turned wr.heap.size 0 16 u5 u6) (h7 : Ext u6 u7) :
    Held .i64 u7 m 0 (digs 8 V) ∧ Free u7 m 0 8 ∧ Free u7 q 0 8 ∧ Ext w u7 ∧ m < u7.heap.size := by
  have m1 : m < (wr.alloc ob).heap.size := size_al' hm ob
  have m5 := h5.lt m1
  have m6 := h6.lt m5
  have q0 : q < wr.heap.size := by omega
  have q1 : q < (wr.alloc ob).heap.size := size_al' q0 ob
  have q5 := h5.lt q1
  have q6 := h6.lt q5
  refine ⟨h7.held m6 (((hH.alloc hm ob).far h5 m1 (.inl (by omega))).far h6 m5 (.inl (by omega))), h7.free m6 (((hF.alloc hm ob).far h5 m1 (.inl (by omega))).far h6 m5 (.inl (by omega))), h7.free q6 (((hF2.alloc q0 ob).far h5 q1 (.inl (by omega))).far h6 q5 (.inl (by omega))), ?_, h7.lt m6⟩
  have hsz := hE.below.size
  exact (Turned.ext_of_new (Turned.ext_of_new (hE.trans (Ext.al _ _)) h5 hsz) h6 hsz).trans h7
theorem stg_length (l : List Int) : ∀ m, (stg l m).length = l.length
  | 0 => rfl
  | m + 1 => by rw [stg, addAt_length, List.length_set, stg_length l m]
theorem stg_math (w0 w1 w2 w3 w4 w5 w6 w7 w8 w9 w10 w11 w12 w13 w14 w15 : Int) (hb : ∀ x ∈ [w0, w1, w2, w3, w4, w5, w6, w7, w8, w9, w10, w11, w12, w13, w14, w15], -8589934592 ≤ x ∧ x ≤ 8589934592) :
    ∃ y0 y1 y2 y3 y4 y5 y6 y7 : Int, (stg [w0, w1, w2, w3, w4, w5, w6, w7, w8, w9, w10, w11, w12, w13, w14, w15] 8).take 8 = [y0, y1, y2, y3, y4, y5, y6, y7] ∧ val [y0, y1, y2, y3, y4, y5, y6, y7] % pI = val [w0, w1, w2, w3, w4, w5, w6, w7, w8, w9, w10, w11, w12, w13, w14, w15] % pI ∧ ∀ x ∈ [y0, y1, y2, y3, y4, y5, y6, y7], -17592186044416 ≤ x ∧ x ≤ 17592186044416 := by
  have s0 : stg [w0, w1, w2, w3, w4, w5, w6, w7, w8, w9, w10, w11, w12, w13, w14, w15] 0 = [w0, w1, w2, w3, w4, w5, w6, w7, w8, w9, w10, w11, w12, w13, w14, w15] := rfl
  obtain ⟨z15_1, hz15_1⟩ : ∃ z, z = wrap64 (w14 + w15) := ⟨_, rfl⟩
  obtain ⟨z15_2, hz15_2⟩ : ∃ z, z = wrap64 (w13 - w15) := ⟨_, rfl⟩
  obtain ⟨z15_5, hz15_5⟩ : ∃ z, z = wrap64 (w10 - w15) := ⟨_, rfl⟩
  obtain ⟨z15_8, hz15_8⟩ : ∃ z, z = wrap64 (w7 + w15) := ⟨_, rfl⟩
  have s1 : stg [w0, w1, w2, w3, w4, w5, w6, w7, w8, w9, w10, w11, w12, w13, w14, w15] 1 = [w0, w1, w2, w3, w4, w5, w6, z15_8, w8, w9, z15_5, w11, w12, z15_2, z15_1, 0] := by
    show addAt ((stg [w0, w1, w2, w3, w4, w5, w6, w7, w8, w9, w10, w11, w12, w13, w14, w15] 0).set 15 0) 15 ((stg [w0, w1, w2, w3, w4, w5, w6, w7, w8, w9, w10, w11, w12, w13, w14, w15] 0).getD 15 0) = _
    rw [s0, hz15_1, hz15_2, hz15_5, hz15_8]
    rfl
  obtain ⟨z14_1, hz14_1⟩ : ∃ z, z = wrap64 (z15_2 + z15_1) := ⟨_, rfl⟩
  obtain ⟨z14_2, hz14_2⟩ : ∃ z, z = wrap64 (w12 - z15_1) := ⟨_, rfl⟩
  obtain ⟨z14_5, hz14_5⟩ : ∃ z, z = wrap64 (w9 - z15_1) := ⟨_, rfl⟩
  obtain ⟨z14_8, hz14_8⟩ : ∃ z, z = wrap64 (w6 + z15_1) := ⟨_, rfl⟩
  have s2 : stg [w0, w1, w2, w3, w4, w5, w6, w7, w8, w9, w10, w11, w12, w13, w14, w15] 2 = [w0, w1, w2, w3, w4, w5, z14_8, z15_8, w8, z14_5, z15_5, w11, z14_2, z14_1, 0, 0] := by
    show addAt ((stg [w0, w1, w2, w3, w4, w5, w6, w7, w8, w9, w10, w11, w12, w13, w14, w15] 1).set 14 0) 14 ((stg [w0, w1, w2, w3, w4, w5, w6, w7, w8, w9, w10, w11, w12, w13, w14, w15] 1).getD 14 0) = _
    rw [s1, hz14_1, hz14_2, hz14_5, hz14_8]
    rfl
  obtain ⟨z13_1, hz13_1⟩ : ∃ z, z = wrap64 (z14_2 + z14_1) := ⟨_, rfl⟩
  obtain ⟨z13_2, hz13_2⟩ : ∃ z, z = wrap64 (w11 - z14_1) := ⟨_, rfl⟩
  obtain ⟨z13_5, hz13_5⟩ : ∃ z, z = wrap64 (w8 - z14_1) := ⟨_, rfl⟩
  obtain ⟨z13_8, hz13_8⟩ : ∃ z, z = wrap64 (w5 + z14_1) := ⟨_, rfl⟩
  have s3 : stg [w0, w1, w2, w3, w4, w5, w6, w7, w8, w9, w10, w11, w12, w13, w14, w15] 3 = [w0, w1, w2, w3, w4, z13_8, z14_8, z15_8, z13_5, z14_5, z15_5, z13_2, z13_1, 0, 0, 0] := by
    show addAt ((stg [w0, w1, w2, w3, w4, w5, w6, w7, w8, w9, w10, w11, w12, w13, w14, w15] 2).set 13 0) 13 ((stg [w0, w1, w2, w3, w4, w5, w6, w7, w8, w9, w10, w11, w12, w13, w14, w15] 2).getD 13 0) = _
    rw [s2, hz13_1, hz13_2, hz13_5, hz13_8]
    rfl
  obtain ⟨z12_1, hz12_1⟩ : ∃ z, z = wrap64 (z13_2 + z13_1) := ⟨_, rfl⟩
  obtain ⟨z12_2, hz12_2⟩ : ∃ z, z = wrap64 (z15_5 - z13_1) := ⟨_, rfl⟩
  obtain ⟨z12_5, hz12_5⟩ : ∃ z, z = wrap64 (z15_8 - z13_1) := ⟨_, rfl⟩
  obtain ⟨z12_8, hz12_8⟩ : ∃ z, z = wrap64 (w4 + z13_1) := ⟨_, rfl⟩
  have s4 : stg [w0, w1, w2, w3, w4, w5, w6, w7, w8, w9, w10, w11, w12, w13, w14, w15] 4 = [w0, w1, w2, w3, z12_8, z13_8, z14_8, z12_5, z13_5, z14_5, z12_2, z12_1, 0, 0, 0, 0] := by
    show addAt ((stg [w0, w1, w2, w3, w4, w5, w6, w7, w8, w9, w10, w11, w12, w13, w14, w15] 3).set 12 0) 12 ((stg [w0, w1, w2, w3, w4, w5, w6, w7, w8, w9, w10, w11, w12, w13, w14, w15] 3).getD 12 0) = _
    rw [s3, hz12_1, hz12_2, hz12_5, hz12_8]
    rfl
  obtain ⟨z11_1, hz11_1⟩ : ∃ z, z = wrap64 (z12_2 + z12_1) := ⟨_, rfl⟩
  obtain ⟨z11_2, hz11_2⟩ : ∃ z, z = wrap64 (z14_5 - z12_1) := ⟨_, rfl⟩
  obtain ⟨z11_5, hz11_5⟩ : ∃ z, z = wrap64 (z14_8 - z12_1) := ⟨_, rfl⟩
  obtain ⟨z11_8, hz11_8⟩ : ∃ z, z = wrap64 (w3 + z12_1) := ⟨_, rfl⟩
  have s5 : stg [w0, w1, w2, w3, w4, w5, w6, w7, w8, w9, w10, w11, w12, w13, w14, w15] 5 = [w0, w1, w2, z11_8, z12_8, z13_8, z11_5, z12_5, z13_5, z11_2, z11_1, 0, 0, 0, 0, 0] := by
    show addAt ((stg [w0, w1, w2, w3, w4, w5, w6, w7, w8, w9, w10, w11, w12, w13, w14, w15] 4).set 11 0) 11 ((stg [w0, w1, w2, w3, w4, w5, w6, w7, w8, w9, w10, w11, w12, w13, w14, w15] 4).getD 11 0) = _
    rw [s4, hz11_1, hz11_2, hz11_5, hz11_8]
    rfl
  obtain ⟨z10_1, hz10_1⟩ : ∃ z, z = wrap64 (z11_2 + z11_1) := ⟨_, rfl⟩
  obtain ⟨z10_2, hz10_2⟩ : ∃ z, z = wrap64 (z13_5 - z11_1) := ⟨_, rfl⟩
  obtain ⟨z10_5, hz10_5⟩ : ∃ z, z = wrap64 (z13_8 - z11_1) := ⟨_, rfl⟩
  obtain ⟨z10_8, hz10_8⟩ : ∃ z, z = wrap64 (w2 + z11_1) := ⟨_, rfl⟩
  have s6 : stg [w0, w1, w2, w3, w4, w5, w6, w7, w8, w9, w10, w11, w12, w13, w14, w15] 6 = [w0, w1, z10_8, z11_8, z12_8, z10_5, z11_5, z12_5, z10_2, z10_1, 0, 0, 0, 0, 0, 0] := by
    show addAt ((stg [w0, w1, w2, w3, w4, w5, w6, w7, w8, w9, w10, w11, w12, w13, w14, w15] 5).set 10 0) 10 ((stg [w0, w1, w2, w3, w4, w5, w6, w7, w8, w9, w10, w11, w12, w13, w14, w15] 5).getD 10 0) = _
    rw [s5, hz10_1, hz10_2, hz10_5, hz10_8]
    rfl
  obtain ⟨z9_1, hz9_1⟩ : ∃ z, z = wrap64 (z10_2 + z10_1) := ⟨_, rfl⟩
  obtain ⟨z9_2, hz9_2⟩ : ∃ z, z = wrap64 (z12_5 - z10_1) := ⟨_, rfl⟩
  obtain ⟨z9_5, hz9_5⟩ : ∃ z, z = wrap64 (z12_8 - z10_1) := ⟨_, rfl⟩
  obtain ⟨z9_8, hz9_8⟩ : ∃ z, z = wrap64 (w1 + z10_1) := ⟨_, rfl⟩
  have s7 : stg [w0, w1, w2, w3, w4, w5, w6, w7, w8, w9, w10, w11, w12, w13, w14, w15] 7 = [w0, z9_8, z10_8, z11_8, z9_5, z10_5, z11_5, z9_2, z9_1, 0, 0, 0, 0, 0, 0, 0] := by
    show addAt ((stg [w0, w1, w2, w3, w4, w5, w6, w7, w8, w9, w10, w11, w12, w13, w14, w15] 6).set 9 0) 9 ((stg [w0, w1, w2, w3, w4, w5, w6, w7, w8, w9, w10, w11, w12, w13, w14, w15] 6).getD 9 0) = _
    rw [s6, hz9_1, hz9_2, hz9_5, hz9_8]
    rfl
  obtain ⟨z8_1, hz8_1⟩ : ∃ z, z = wrap64 (z9_2 + z9_1) := ⟨_, rfl⟩
  obtain ⟨z8_2, hz8_2⟩ : ∃ z, z = wrap64 (z11_5 - z9_1) := ⟨_, rfl⟩
  obtain ⟨z8_5, hz8_5⟩ : ∃ z, z = wrap64 (z11_8 - z9_1) := ⟨_, rfl⟩
  obtain ⟨z8_8, hz8_8⟩ : ∃ z, z = wrap64 (w0 + z9_1) := ⟨_, rfl⟩
  have s8 : stg [w0, w1, w2, w3, w4, w5, w6, w7, w8, w9, w10, w11, w12, w13, w14, w15] 8 = [z8_8, z9_8, z10_8, z8_5, z9_5, z10_5, z8_2, z8_1, 0, 0, 0, 0, 0, 0, 0, 0] := by
    show addAt ((stg [w0, w1, w2, w3, w4, w5, w6, w7, w8, w9, w10, w11, w12, w13, w14, w15] 7).set 8 0) 8 ((stg [w0, w1, w2, w3, w4, w5, w6, w7, w8, w9, w10, w11, w12, w13, w14, w15] 7).getD 8 0) = _
    rw [s7, hz8_1, hz8_2, hz8_5, hz8_8]
    rfl
  have h := fold_math w0 w1 w2 w3 w4 w5 w6 w7 w8 w9 w10 w11 w12 w13 w14 w15 z15_1 z15_2 z15_5 z15_8 z14_1 z14_2 z14_5 z14_8 z13_1 z13_2 z13_5 z13_8 z12_1 z12_2 z12_5 z12_8 z11_1 z11_2 z11_5 z11_8 z10_1 z10_2 z10_5 z10_8 z9_1 z9_2 z9_5 z9_8 z8_1 z8_2 z8_5 z8_8 (hb w0 (by simp)) (hb w1 (by simp)) (hb w2 (by simp)) (hb w3 (by simp)) (hb w4 (by simp)) (hb w5 (by simp)) (hb w6 (by simp)) (hb w7 (by simp)) (hb w8 (by simp)) (hb w9 (by simp)) (hb w10 (by simp)) (hb w11 (by simp)) (hb w12 (by simp)) (hb w13 (by simp)) (hb w14 (by simp)) (hb w15 (by simp)) hz15_1 hz15_2 hz15_5 hz15_8 hz14_1 hz14_2 hz14_5 hz14_8 hz13_1 hz13_2 hz13_5 hz13_8 hz12_1 hz12_2 hz12_5 hz12_8 hz11_1 hz11_2 hz11_5 hz11_8 hz10_1 hz10_2 hz10_5 hz10_8 hz9_1 hz9_2 hz9_5 hz9_8 hz8_1 hz8_2 hz8_5 hz8_8
  obtain ⟨⟨q, hq⟩, hbd⟩ := h
  exact ⟨_, _, _, _, _, _, _, _, by rw [s8]; rfl, emod_q _ _ q hq, hbd⟩
theorem E8_pI : E8 pI = .agg #[.int .i64 4294967295, .int .i64 4294967295, .int .i64 4294967295, .int .i64 0, .int .i64 0, .int .i64 0, .int .i64 1, .int .i64 4294967295] := by rfl
theorem digs_pI : digs 8 pI = [4294967295, 4294967295, 4294967295, 0, 0, 0, 1, 4294967295] := by rfl
theorem Prime_lit (w : World) : Calls Try.prog 9 #[] w fun e w' => e = .returned (.agg #[.int .i64 4294967295, .int .i64 4294967295, .int .i64 4294967295, .int .i64 0, .int .i64 0, .int .i64 0, .int .i64 1, .int .i64 4294967295]) ∧ Ext w w' := by
  go_enter Try.func9, Try.ntmps9
  go_wp2
  refine bodyPost_ret (v := ?v2) (by simp [results, Try.results9, go_sem]; rfl) rfl ⟨?_, ?_⟩
  · rfl
  · (refine Ext.of_below ?_; (repeat (first | exact Below.refl _ _ | refine below_drewN' ?_ _ | refine below_ext ?_ (by simp <;> omega) _ | apply Below.drew | refine Below.setCell ?_ (by simp <;> omega) _ | refine Below.alloc ?_ (by simp <;> omega) _)))

@[go_sem] theorem arrAt8 (a : Option Addr) (cap : Nat) (w : World) : (Instr.arrayAt 25 (.slice a 8 cap)).run Try.prog w = .ok (.pointer a) w := by
  simp [Instr.arrayAt, run_underlying Try.underlying25]
set_option maxHeartbeats 8000000 in
set_option maxRecDepth 100000 in
theorem reduced_any (w0 w1 w2 w3 w4 w5 w6 w7 w8 w9 w10 w11 w12 w13 w14 w15 : Int) (hb : ∀ x ∈ [w0, w1, w2, w3, w4, w5, w6, w7, w8, w9, w10, w11, w12, w13, w14, w15], -8589934592 ≤ x ∧ x ≤ 8589934592) (w : World) :
    Calls Try.prog 21 #[.agg #[.int .i64 w0, .int .i64 w1, .int .i64 w2, .int .i64 w3, .int .i64 w4, .int .i64 w5, .int .i64 w6, .int .i64 w7, .int .i64 w8, .int .i64 w9, .int .i64 w10, .int .i64 w11, .int .i64 w12, .int .i64 w13, .int .i64 w14, .int .i64 w15]] w fun e w' => e = .returned (E8 (val [w0, w1, w2, w3, w4, w5, w6, w7, w8, w9, w10, w11, w12, w13, w14, w15] % pI)) ∧ Ext w w' := by
  obtain ⟨l, hl⟩ : ∃ l : List Int, l = [w0, w1, w2, w3, w4, w5, w6, w7, w8, w9, w10, w11, w12, w13, w14, w15] := ⟨_, rfl⟩
  have hrow : (#[Value.int .i64 w0, Value.int .i64 w1, Value.int .i64 w2, Value.int .i64 w3, Value.int .i64 w4, Value.int .i64 w5, Value.int .i64 w6, Value.int .i64 w7, Value.int .i64 w8, Value.int .i64 w9, Value.int .i64 w10, Value.int .i64 w11, Value.int .i64 w12, Value.int .i64 w13, Value.int .i64 w14, Value.int .i64 w15] : Array Value) = (l.map (Value.int .i64)).toArray := by rw [hl]; rfl
  have hll : l.length = 16 := by rw [hl]; rfl
  obtain ⟨R, hR⟩ : ∃ R : Value, R = E8 (val [w0, w1, w2, w3, w4, w5, w6, w7, w8, w9, w10, w11, w12, w13, w14, w15] % pI) := ⟨_, rfl⟩
  rw [← hR]
  have hM := stg_math w0 w1 w2 w3 w4 w5 w6 w7 w8 w9 w10 w11 w12 w13 w14 w15 hb
  rw [← hl] at hM
  have hWl : Held .i64 ((w.alloc (.cells (l.map (Value.int .i64)).toArray 53)).alloc (.cells #[.int .i64 0, .int .i64 0, .int .i64 0, .int .i64 0, .int .i64 0, .int .i64 0, .int .i64 0, .int .i64 0] 26)) w.heap.size 0 l :=
    Held.alloc (Held.row' _ _ (heap_at _ _ _ rfl)) (by rw [size_alloc]; omega) _
  rw [← hrow] at hWl
  have H := Lib.hid (And.intro hl (And.intro hll (And.intro hR (And.intro hM hWl))))
  clear hl hll hR hM hb hrow hWl
  go_enter Try.func21, Try.ntmps21
  go_wp2
  generalize Value.agg #[.int .i64 w0, .int .i64 w1, .int .i64 w2, .int .i64 w3, .int .i64 w4, .int .i64 w5, .int .i64 w6, .int .i64 w7, .int .i64 w8, .int .i64 w9, .int .i64 w10, .int .i64 w11, .int .i64 w12, .int .i64 w13, .int .i64 w14, .int .i64 w15] = J0
  go_loopw [3] (fun i wr => ∃ k : Nat, 7 ≤ k ∧ k ≤ 15 ∧ i = .int .i64 k ∧ Hid (Turned w.heap.size 0 16 ((w.alloc (.cells #[.int .i64 w0, .int .i64 w1, .int .i64 w2, .int .i64 w3, .int .i64 w4, .int .i64 w5, .int .i64 w6, .int .i64 w7, .int .i64 w8, .int .i64 w9, .int .i64 w10, .int .i64 w11, .int .i64 w12, .int .i64 w13, .int .i64 w14, .int .i64 w15] 53)).alloc (.cells #[.int .i64 0, .int .i64 0, .int .i64 0, .int .i64 0, .int .i64 0, .int .i64 0, .int .i64 0, .int .i64 0] 26)) wr ∧ Wds wr w.heap.size (stg l (15 - k)))) (fun i _ => (intOf i).toNat)
  case atStart => exact ⟨15, by omega, by omega, rfl, Lib.hid ⟨Turned.refl _ _ _ _, wds_of H.out.2.2.2.2⟩⟩
  case round =>
    obtain ⟨k, hk7, hk15, rfl, HR⟩ := hrel
    have hlen : (stg l (15 - k)).length = 16 := by rw [stg_length, H.out.2.1]
    by_cases hlt : 8 ≤ k
    · have hlt' : (8 : Int) ≤ (k : Int) := by omega
      have a1 := HR.out.2.at (j := k) (by omega)
      have f1 : wr.frozen? ⟨w.heap.size, k, none⟩ = false := (HR.out.1.frz _).trans (frozen_row (by rw [heap_past _ _ _ (by rw [size_alloc]; omega)]; exact heap_at _ _ _ rfl) _)
      go_wp2_with (go_at_call 37; go_must (refine (folded_any w.heap.size k ((stg l (15 - k)).getD k 0) ((stg l (15 - k)).set k 0) (by rw [List.length_set, hlen]) ⟨hlt, hk15⟩ (wr.setCell ⟨w.heap.size, k, none⟩ (.int .i64 0)) (HR.out.2.set (by omega) 0) (fun o => by rw [World.frozen?_setCell]; exact (HR.out.1.frz _).trans (frozen_row (by rw [heap_past _ _ _ (by rw [size_alloc]; omega)]; exact heap_at _ _ _ rfl) _))).mono ?_); rintro e u2 ⟨rfl, hT, hE⟩; have H2 := Lib.hid (And.intro hT hE); clear hT hE)
      refine ⟨⟨k - 1, by omega, by omega, by congr 1; omega, Lib.hid ⟨(HR.out.1.trans (Turned.set1 _ _ _ _ _ (by omega))).trans H2.out.1, ?_⟩⟩, by simp [intOf]; omega⟩
      have e : stg l (15 - (k - 1)) = addAt ((stg l (15 - k)).set k 0) k ((stg l (15 - k)).getD k 0) := by
        rw [show 15 - (k - 1) = (15 - k) + 1 by omega, stg, show 15 - (15 - k) = k by omega]
      rw [e]
      exact H2.out.2
    · obtain rfl : k = 7 := by omega
      obtain ⟨y0, y1, y2, y3, y4, y5, y6, y7, hy, hyv, hyb⟩ := H.out.2.2.2.1
      have hc : ∀ j x, j < 8 → [y0, y1, y2, y3, y4, y5, y6, y7][j]? = some x → wr.cell? ⟨w.heap.size, j, none⟩ = some (.int .i64 x) := fun j x hj hx => HR.out.2 j x (by rw [← hy, List.getElem?_take_of_lt hj] at hx; exact hx)
      have c0 := hc 0 y0 (by decide) rfl
      have c1 := hc 1 y1 (by decide) rfl
      have c2 := hc 2 y2 (by decide) rfl
      have c3 := hc 3 y3 (by decide) rfl
      have c4 := hc 4 y4 (by decide) rfl
      have c5 := hc 5 y5 (by decide) rfl
      have c6 := hc 6 y6 (by decide) rfl
      have c7 := hc 7 y7 (by decide) rfl
      have HY := Lib.hid (And.intro hyv hyb)
      clear hy hyv hyb hc
      obtain ⟨V0, hV0⟩ : ∃ V : Int, V = val [y0, y1, y2, y3, y4, y5, y6, y7] := ⟨_, rfl⟩
      obtain ⟨d0, d1, d2, d3, d4, d5, d6, d7, hd, he, _⟩ := E8_open V0
      have hcar : ∀ w, Calls Try.prog 38 #[.agg #[.int .i64 y0, .int .i64 y1, .int .i64 y2, .int .i64 y3, .int .i64 y4, .int .i64 y5, .int .i64 y6, .int .i64 y7]] w fun e w' => e = .returned (.tuple #[.agg #[.int .i64 d0, .int .i64 d1, .int .i64 d2, .int .i64 d3, .int .i64 d4, .int .i64 d5, .int .i64 d6, .int .i64 d7], .int .i64 (cy 8 V0)]) ∧ Ext w w' := fun w => by
        have h := carried_any [y0, y1, y2, y3, y4, y5, y6, y7] rfl (fun x hx => by have := HY.out.2 x hx; omega) w
        rw [← hV0, he] at h
        exact h
      have hcb := val8_bd [y0, y1, y2, y3, y4, y5, y6, y7] rfl HY.out.2
      rw [← hV0] at hcb
      have HC := Lib.hid (And.intro hcar (And.intro hd (And.intro hcb hV0)))
      clear hcar hd he hcb hV0
      go_wp2_with (go_at_call 38; go_must (refine (HC.out.1 _).mono ?_); rintro e u3 ⟨rfl, hE⟩; have H3 := Lib.hid hE; clear hE)
      have hE0 : Ext w wr := Turned.ext_of_new ((Ext.al w _).trans (Ext.al _ _)) HR.out.1 (Nat.le_refl _)
      have hE1 : Ext w (u3.alloc (.cells #[.int .i64 d0, .int .i64 d1, .int .i64 d2, .int .i64 d3, .int .i64 d4, .int .i64 d5, .int .i64 d6, .int .i64 d7] 26)) := (hE0.trans H3.out).trans (Ext.al _ _)
      have hsz : w.heap.size + 1 < wr.heap.size := HR.out.1.lt (by simp [size_alloc])
      have hsz3 : w.heap.size + 1 < u3.heap.size := H3.out.lt hsz
      have hfr : Free (u3.alloc (.cells #[.int .i64 d0, .int .i64 d1, .int .i64 d2, .int .i64 d3, .int .i64 d4, .int .i64 d5, .int .i64 d6, .int .i64 d7] 26)) (w.heap.size + 1) 0 8 :=
        Free.alloc (H3.out.free hsz (Free.far (len' := 16) (Free.newWords (by simp [size_alloc]) rfl) HR.out.1 (by simp [size_alloc]) (.inl (by omega)))) hsz3 _
      have HI : Hid (V0 % pI = val l % pI ∧ (-1048576 ≤ cy 8 V0 ∧ cy 8 V0 ≤ 1048576) ∧ Ext w (u3.alloc (.cells #[.int .i64 d0, .int .i64 d1, .int .i64 d2, .int .i64 d3, .int .i64 d4, .int .i64 d5, .int .i64 d6, .int .i64 d7] 26)) ∧ u3.heap.size < (u3.alloc (.cells #[.int .i64 d0, .int .i64 d1, .int .i64 d2, .int .i64 d3, .int .i64 d4, .int .i64 d5, .int .i64 d6, .int .i64 d7] 26)).heap.size ∧
          Held .i64 (u3.alloc (.cells #[.int .i64 d0, .int .i64 d1, .int .i64 d2, .int .i64 d3, .int .i64 d4, .int .i64 d5, .int .i64 d6, .int .i64 d7] 26)) u3.heap.size 0 (digs 8 V0) ∧ Free (u3.alloc (.cells #[.int .i64 d0, .int .i64 d1, .int .i64 d2, .int .i64 d3, .int .i64 d4, .int .i64 d5, .int .i64 d6, .int .i64 d7] 26)) u3.heap.size 0 8 ∧
          Free (u3.alloc (.cells #[.int .i64 d0, .int .i64 d1, .int .i64 d2, .int .i64 d3, .int .i64 d4, .int .i64 d5, .int .i64 d6, .int .i64 d7] 26)) (w.heap.size + 1) 0 8) := Lib.hid
        ⟨by rw [HC.out.2.2.2]; exact HY.out.1, HC.out.2.2.1, hE1, by simp [size_alloc], by rw [HC.out.2.1]; exact Held.row' (l := [d0, d1, d2, d3, d4, d5, d6, d7]) _ _ (heap_at _ _ _ rfl), Free.newWords rfl rfl, hfr⟩
      have HS := Lib.hid (And.intro hsz3 H.out.2.2.1)
      obtain ⟨m, hm⟩ : ∃ m, m = u3.heap.size := ⟨_, rfl⟩
      clear hE0 hE1 hsz hsz3 hfr c0 c1 c2 c3 c4 c5 c6 c7
      go_loopw [6] (fun c wr => ∃ V : Int, c = .int .i64 (cy 8 V) ∧ Hid (V % pI = val l % pI ∧ (-1048576 ≤ cy 8 V ∧ cy 8 V ≤ 1048576) ∧ Ext w wr ∧ u3.heap.size < wr.heap.size ∧ Held .i64 wr u3.heap.size 0 (digs 8 V) ∧ Free wr u3.heap.size 0 8 ∧ Free wr (w.heap.size + 1) 0 8)) (fun c wr => stm (vOf wr u3.heap.size (intOf c)))
      case atStart => exact ⟨V0, rfl, HI⟩
      case round =>
        obtain ⟨V, rfl, HV⟩ := hrel
        by_cases hz : cy 8 V = 0
        · have hV0 : 0 ≤ V ∧ V < R256 := by
            rw [cy8] at hz
            simp only [R256]
            omega
          obtain ⟨e0, e1, e2, e3, e4, e5, e6, e7, hde, hee, ⟨p0, q0⟩, ⟨p1, q1⟩, ⟨p2, q2⟩, ⟨p3, q3⟩, ⟨p4, q4⟩, ⟨p5, q5⟩, ⟨p6, q6⟩, ⟨p7, q7⟩⟩ := E8_open V
          have hh := HV.out.2.2.2.2.1
          rw [hde] at hh
          have m0 := hh 0 e0 rfl; have m1 := hh 1 e1 rfl; have m2 := hh 2 e2 rfl; have m3 := hh 3 e3 rfl; have m4 := hh 4 e4 rfl; have m5 := hh 5 e5 rfl; have m6 := hh 6 e6 rfl; have m7 := hh 7 e7 rfl
          have z0 := (HV.out.2.2.2.2.2.1 0 (by decide)).2; have z1 := (HV.out.2.2.2.2.2.1 1 (by decide)).2; have z2 := (HV.out.2.2.2.2.2.1 2 (by decide)).2; have z3 := (HV.out.2.2.2.2.2.1 3 (by decide)).2; have z4 := (HV.out.2.2.2.2.2.1 4 (by decide)).2; have z5 := (HV.out.2.2.2.2.2.1 5 (by decide)).2; have z6 := (HV.out.2.2.2.2.2.1 6 (by decide)).2; have z7 := (HV.out.2.2.2.2.2.1 7 (by decide)).2
          simp only [Nat.zero_add] at m0 m1 m2 m3 m4 m5 m6 m7 z0 z1 z2 z3 z4 z5 z6 z7
          have F2 := HV.out.2.2.2.2.2.2
          have hmw := HV.out.2.2.2.1
          have hqw : w.heap.size + 1 < wr.heap.size := Nat.lt_trans HS.out.1 hmw
          have hlt : lexlt [e0, e1, e2, e3, e4, e5, e6, e7] [4294967295, 4294967295, 4294967295, 0, 0, 0, 1, 4294967295] = decide (V < pI) := by
            rw [← hde, ← digs_pI, lexlt_val _ _ (by simp [digs_length]) (digs_bd _ _) (digs_bd _ _), val_E8 hV0.1 hV0.2, val_E8 (by decide) (by decide +kernel)]
          have hv : val [e0, e1, e2, e3, e4, e5, e6, e7] = V := by rw [← hde, val_E8 hV0.1 hV0.2]
          have hlast := emod_last V hV0.1 hV0.2
          by_cases hc : V < pI
          · have hb : lexlt [e0, e1, e2, e3, e4, e5, e6, e7] [4294967295, 4294967295, 4294967295, 0, 0, 0, 1, 4294967295] = true := by rw [hlt]; simpa using hc
            have hB := Lib.hid (fun w => (by have h := Below_raw [e0, e1, e2, e3, e4, e5, e6, e7] [4294967295, 4294967295, 4294967295, 0, 0, 0, 1, 4294967295] rfl rfl w; rw [hb] at h; exact h : Calls Try.prog 10 _ w _))
            rw [if_pos hc] at hlast
            have hR : R = .agg #[.int .i64 e0, .int .i64 e1, .int .i64 e2, .int .i64 e3, .int .i64 e4, .int .i64 e5, .int .i64 e6, .int .i64 e7] := by
              rw [H.out.2.2.1, ← H.out.1, ← HV.out.1, hlast, hee]
            have HR2 := Lib.hid hR
            obtain ⟨⟨x0, n0⟩, k0⟩ := F2 0 (by decide); obtain ⟨⟨x1, n1⟩, k1⟩ := F2 1 (by decide); obtain ⟨⟨x2, n2⟩, k2⟩ := F2 2 (by decide); obtain ⟨⟨x3, n3⟩, k3⟩ := F2 3 (by decide)
            obtain ⟨⟨x4, n4⟩, k4⟩ := F2 4 (by decide); obtain ⟨⟨x5, n5⟩, k5⟩ := F2 5 (by decide); obtain ⟨⟨x6, n6⟩, k6⟩ := F2 6 (by decide); obtain ⟨⟨x7, n7⟩, k7⟩ := F2 7 (by decide)
            simp only [Nat.zero_add] at n0 n1 n2 n3 n4 n5 n6 n7 k0 k1 k2 k3 k4 k5 k6 k7
            clear hh hlt hv hlast hb hR hc hde hee F2 hV0
            go_wp2_with (refine wp_grow (by kernel_rfl) (by kernel_rfl) ?_; (repeat (first | go_big_quiet_skip | (go_big_quiet_want; go_big_quiet_op; first | go_big_quiet_on | go_big_quiet_call (((first | (go_at_call 9; exact calls_grow (Prime_lit _)) | (go_at_call 10; exact calls_grow (hB.out _)))))))); refine wpQuiet_nil ?_; intro _ hw'; obtain ⟨g', hw''⟩ := hw'; subst hw'')
            have hS := set8 wr (w.heap.size + 1) e0 e1 e2 e3 e4 e5 e6 e7 HV.out.2.2.2.2.2.2
            refine bodyPost_ret (results_E8 rfl rfl (hS.2.ext (hS.1.lt hqw) _)) rfl ⟨by rw [HR2.out], ?_⟩
            exact (Turned.ext_of_new HV.out.2.2.1 hS.1 (Nat.le_succ _)).trans ⟨_, rfl⟩
          · have hb : lexlt [e0, e1, e2, e3, e4, e5, e6, e7] [4294967295, 4294967295, 4294967295, 0, 0, 0, 1, 4294967295] = false := by rw [hlt]; simpa using hc
            have hB := Lib.hid (fun w => (by have h := Below_raw [e0, e1, e2, e3, e4, e5, e6, e7] [4294967295, 4294967295, 4294967295, 0, 0, 0, 1, 4294967295] rfl rfl w; rw [hb] at h; exact h : Calls Try.prog 10 _ w _))
            rw [if_neg hc] at hlast
            obtain ⟨g0, g1, g2, g3, g4, g5, g6, g7, hdg, heg, _⟩ := E8_open (V - pI)
            have wb : ∀ x y : Int, 0 ≤ x → x < 4294967296 → 0 ≤ y → y < 4294967296 → wrap64 (x - y) = x - y := fun x y _ _ _ _ => w64 _ (by omega)
            have hvd : val [wrap64 (e0 - 4294967295), wrap64 (e1 - 4294967295), wrap64 (e2 - 4294967295), wrap64 (e3 - 0), wrap64 (e4 - 0), wrap64 (e5 - 0), wrap64 (e6 - 1), wrap64 (e7 - 4294967295)] = V - pI := by
              rw [wb e0 _ p0 q0 (by decide) (by decide), wb e1 _ p1 q1 (by decide) (by decide), wb e2 _ p2 q2 (by decide) (by decide), wb e3 _ p3 q3 (by decide) (by decide), wb e4 _ p4 q4 (by decide) (by decide), wb e5 _ p5 q5 (by decide) (by decide), wb e6 _ p6 q6 (by decide) (by decide), wb e7 _ p7 q7 (by decide) (by decide), ← hv]
              simp only [val, pI]
              omega
            have hcar : ∀ w, Calls Try.prog 38 #[.agg #[.int .i64 (wrap64 (e0 - 4294967295)), .int .i64 (wrap64 (e1 - 4294967295)), .int .i64 (wrap64 (e2 - 4294967295)), .int .i64 (wrap64 (e3 - 0)), .int .i64 (wrap64 (e4 - 0)), .int .i64 (wrap64 (e5 - 0)), .int .i64 (wrap64 (e6 - 1)), .int .i64 (wrap64 (e7 - 4294967295))]] w fun e w' => (∃ c, e = .returned (.tuple #[.agg #[.int .i64 g0, .int .i64 g1, .int .i64 g2, .int .i64 g3, .int .i64 g4, .int .i64 g5, .int .i64 g6, .int .i64 g7], c])) ∧ Ext w w' := fun w => by
              have h := carried_any [wrap64 (e0 - 4294967295), wrap64 (e1 - 4294967295), wrap64 (e2 - 4294967295), wrap64 (e3 - 0), wrap64 (e4 - 0), wrap64 (e5 - 0), wrap64 (e6 - 1), wrap64 (e7 - 4294967295)] rfl (fun x hx => by
                simp only [List.mem_cons, List.not_mem_nil, or_false] at hx
                rcases hx with rfl | rfl | rfl | rfl | rfl | rfl | rfl | rfl <;> (rw [w64 _ (by omega)]; omega)) w
              rw [hvd, heg] at h
              exact h.mono fun e w' ⟨h1, h2⟩ => ⟨⟨_, h1⟩, h2⟩
            have hR : R = .agg #[.int .i64 g0, .int .i64 g1, .int .i64 g2, .int .i64 g3, .int .i64 g4, .int .i64 g5, .int .i64 g6, .int .i64 g7] := by
              rw [H.out.2.2.1, ← H.out.1, ← HV.out.1, hlast, heg]
            have hdf8 := dfl8 e0 e1 e2 e3 e4 e5 e6 e7 4294967295 4294967295 4294967295 0 0 0 1 4294967295
            generalize wrap64 (e0 - 4294967295) = v0 at hcar hdf8
            generalize wrap64 (e1 - 4294967295) = v1 at hcar hdf8
            generalize wrap64 (e2 - 4294967295) = v2 at hcar hdf8
            generalize wrap64 (e3 - 0) = v3 at hcar hdf8
            generalize wrap64 (e4 - 0) = v4 at hcar hdf8
            generalize wrap64 (e5 - 0) = v5 at hcar hdf8
            generalize wrap64 (e6 - 1) = v6 at hcar hdf8
            generalize wrap64 (e7 - 4294967295) = v7 at hcar hdf8
            have HR2 := Lib.hid (And.intro hR (And.intro hcar (And.intro hde hdf8)))
            clear hh hlt hv hlast hb hR hc hde hee F2 hV0 hdg heg hvd hcar hdf8 wb p0 q0 p1 q1 p2 q2 p3 q3 p4 q4 p5 q5 p6 q6 p7 q7
            go_wp2_with (first
              | (refine wp_grow (by kernel_rfl) (by kernel_rfl) ?_; (repeat (first | go_big_quiet_skip | (go_big_quiet_want; go_big_quiet_op; first | go_big_quiet_on | go_big_quiet_call (((first | (go_at_call 9; exact calls_grow (Prime_lit _)) | (go_at_call 10; exact calls_grow (hB.out _)))))))); refine wpQuiet_nil ?_; intro _ hw'; obtain ⟨g', hw''⟩ := hw'; subst hw'')
              | (go_at_call 9; refine (Prime_lit _).mono ?_; rintro e w' ⟨rfl, gg, rfl⟩))
            clear m0 m1 m2 m3 m4 m5 m6 m7 z0 z1 z2 z3 z4 z5 z6 z7
            have hEx : Ext wr ((ext (ext wr g') gg).alloc (.cells #[.int .i64 4294967295, .int .i64 4294967295, .int .i64 4294967295, .int .i64 0, .int .i64 0, .int .i64 0, .int .i64 1, .int .i64 4294967295] 26)) := (Ext.trans ⟨g', rfl⟩ ⟨gg, rfl⟩).trans (Ext.al _ _)
            have HW9 : Hid (Ext w ((ext (ext wr g') gg).alloc (.cells #[.int .i64 4294967295, .int .i64 4294967295, .int .i64 4294967295, .int .i64 0, .int .i64 0, .int .i64 0, .int .i64 1, .int .i64 4294967295] 26)) ∧ u3.heap.size < ((ext (ext wr g') gg).alloc (.cells #[.int .i64 4294967295, .int .i64 4294967295, .int .i64 4294967295, .int .i64 0, .int .i64 0, .int .i64 0, .int .i64 1, .int .i64 4294967295] 26)).heap.size ∧ Wds ((ext (ext wr g') gg).alloc (.cells #[.int .i64 4294967295, .int .i64 4294967295, .int .i64 4294967295, .int .i64 0, .int .i64 0, .int .i64 0, .int .i64 1, .int .i64 4294967295] 26)) u3.heap.size (dfl [e0, e1, e2, e3, e4, e5, e6, e7] [4294967295, 4294967295, 4294967295, 0, 0, 0, 1, 4294967295] 0) ∧ Free ((ext (ext wr g') gg).alloc (.cells #[.int .i64 4294967295, .int .i64 4294967295, .int .i64 4294967295, .int .i64 0, .int .i64 0, .int .i64 0, .int .i64 1, .int .i64 4294967295] 26)) u3.heap.size 0 8 ∧ Free ((ext (ext wr g') gg).alloc (.cells #[.int .i64 4294967295, .int .i64 4294967295, .int .i64 4294967295, .int .i64 0, .int .i64 0, .int .i64 0, .int .i64 1, .int .i64 4294967295] 26)) (w.heap.size + 1) 0 8 ∧ Wds ((ext (ext wr g') gg).alloc (.cells #[.int .i64 4294967295, .int .i64 4294967295, .int .i64 4294967295, .int .i64 0, .int .i64 0, .int .i64 0, .int .i64 1, .int .i64 4294967295] 26)) (wr.heap.size + g'.os.length + gg.os.length) [4294967295, 4294967295, 4294967295, 0, 0, 0, 1, 4294967295]) :=
              Lib.hid ⟨HV.out.2.2.1.trans hEx, hEx.lt hmw, by rw [← HR2.out.2.2.1]; exact wds_of (hEx.held hmw HV.out.2.2.2.2.1), hEx.free hmw HV.out.2.2.2.2.2.1, hEx.free hqw HV.out.2.2.2.2.2.2, wds_of (Held.row' (l := [4294967295, 4294967295, 4294967295, 0, 0, 0, 1, 4294967295]) _ _ (heap_at _ _ _ (by simp)))⟩
            have HMW := Lib.hid (And.intro hmw hqw)
            clear hEx hmw hqw
            go_loopw [9] (fun i wr2 => ∃ k : Nat, k ≤ 8 ∧ i = .int .i64 k ∧ Hid (Ext w wr2 ∧ u3.heap.size < wr2.heap.size ∧ Wds wr2 u3.heap.size (dfl [e0, e1, e2, e3, e4, e5, e6, e7] [4294967295, 4294967295, 4294967295, 0, 0, 0, 1, 4294967295] k) ∧ Free wr2 u3.heap.size 0 8 ∧ Free wr2 (w.heap.size + 1) 0 8 ∧ Wds wr2 (wr.heap.size + g'.os.length + gg.os.length) [4294967295, 4294967295, 4294967295, 0, 0, 0, 1, 4294967295])) (fun i _ => 8 - (intOf i).toNat)
            case atStart => exact ⟨0, by omega, rfl, HW9⟩
            case round =>
              obtain ⟨k, hk, rfl, HR9⟩ := hrel
              have hdl : (dfl [e0, e1, e2, e3, e4, e5, e6, e7] [4294967295, 4294967295, 4294967295, 0, 0, 0, 1, 4294967295] k).length = 8 := dfl_length _ _ _
              by_cases hlt : k < 8
              · have hlt' : (k : Int) < 8 := by omega
                have a1 := HR9.out.2.2.1.at (j := k) (by omega)
                have a2 := HR9.out.2.2.2.2.2.at (j := k) hlt
                have f1 := (HR9.out.2.2.2.1 k hlt).2
                rw [Nat.zero_add] at f1
                obtain ⟨A, hA⟩ : ∃ A, A = (dfl [e0, e1, e2, e3, e4, e5, e6, e7] [4294967295, 4294967295, 4294967295, 0, 0, 0, 1, 4294967295] k).getD k 0 := ⟨_, rfl⟩
                obtain ⟨B, hB⟩ : ∃ B, B = ([4294967295, 4294967295, 4294967295, 0, 0, 0, 1, 4294967295] : List Int).getD k 0 := ⟨_, rfl⟩
                rw [← hA] at a1
                rw [← hB] at a2
                have HAB := Lib.hid (And.intro hA (And.intro hB hdl))
                clear hA hB hdl
                go_wp2_with (refine wp_quiet_tail 8 (by kernel_rfl) (by kernel_rfl) ?_; simp only [List.take_succ_cons, List.take_zero, List.drop_succ_cons, List.drop_zero]; (repeat (first | go_big_quiet_skip | (go_big_quiet_want; go_big_quiet_op; first | go_big_quiet_on))); refine wpQuiet_nil ?_; intro _ hw'; obtain ⟨nq, hw''⟩ := hw'; subst hw'')
                have T1 := (Turned.set1 wr u3.heap.size k 8 (.int .i64 (wrap64 (A - B))) hlt).drewN nq
                have hN := lt_of_cell (HR9.out.2.2.2.2.2 0 _ rfl)
                have hmq := HS.out.1
                have hmn : u3.heap.size < _ := HMW.out.1
                refine ⟨⟨k + 1, by omega, by go_num, Lib.hid ⟨Turned.ext_of_new HR9.out.1 T1 (by omega), T1.lt HR9.out.2.1, ?_, (HR9.out.2.2.2.1.setc k _).drewN nq, HR9.out.2.2.2.2.1.far T1 (by have := HR9.out.2.1; omega) (.inl (by omega)), wds_of ((held_of HR9.out.2.2.2.2.2).far T1 hN (.inl (by omega)))⟩⟩, by simp [intOf]; omega⟩
                rw [dfl, ← HAB.out.1, ← HAB.out.2.1]
                exact (HR9.out.2.2.1.set (by rw [HAB.out.2.2]; exact hlt) _).drewN nq
              · obtain rfl : k = 8 := by omega
                have hW := HR9.out.2.2.1
                rw [HR2.out.2.2.2] at hW
                have c0 : wr.cell? ⟨u3.heap.size, 0, none⟩ = some (.int .i64 v0) := hW 0 _ rfl
                have c1 : wr.cell? ⟨u3.heap.size, 1, none⟩ = some (.int .i64 v1) := hW 1 _ rfl
                have c2 : wr.cell? ⟨u3.heap.size, 2, none⟩ = some (.int .i64 v2) := hW 2 _ rfl
                have c3 : wr.cell? ⟨u3.heap.size, 3, none⟩ = some (.int .i64 v3) := hW 3 _ rfl
                have c4 : wr.cell? ⟨u3.heap.size, 4, none⟩ = some (.int .i64 v4) := hW 4 _ rfl
                have c5 : wr.cell? ⟨u3.heap.size, 5, none⟩ = some (.int .i64 v5) := hW 5 _ rfl
                have c6 : wr.cell? ⟨u3.heap.size, 6, none⟩ = some (.int .i64 v6) := hW 6 _ rfl
                have c7 : wr.cell? ⟨u3.heap.size, 7, none⟩ = some (.int .i64 v7) := hW 7 _ rfl
                have z0 := (HR9.out.2.2.2.1 0 (by decide)).2; have z1 := (HR9.out.2.2.2.1 1 (by decide)).2; have z2 := (HR9.out.2.2.2.1 2 (by decide)).2; have z3 := (HR9.out.2.2.2.1 3 (by decide)).2; have z4 := (HR9.out.2.2.2.1 4 (by decide)).2; have z5 := (HR9.out.2.2.2.1 5 (by decide)).2; have z6 := (HR9.out.2.2.2.1 6 (by decide)).2; have z7 := (HR9.out.2.2.2.1 7 (by decide)).2
                obtain ⟨⟨x0, n0⟩, k0⟩ := HR9.out.2.2.2.2.1 0 (by decide)
                obtain ⟨⟨x1, n1⟩, k1⟩ := HR9.out.2.2.2.2.1 1 (by decide)
                obtain ⟨⟨x2, n2⟩, k2⟩ := HR9.out.2.2.2.2.1 2 (by decide)
                obtain ⟨⟨x3, n3⟩, k3⟩ := HR9.out.2.2.2.2.1 3 (by decide)
                obtain ⟨⟨x4, n4⟩, k4⟩ := HR9.out.2.2.2.2.1 4 (by decide)
                obtain ⟨⟨x5, n5⟩, k5⟩ := HR9.out.2.2.2.2.1 5 (by decide)
                obtain ⟨⟨x6, n6⟩, k6⟩ := HR9.out.2.2.2.2.1 6 (by decide)
                obtain ⟨⟨x7, n7⟩, k7⟩ := HR9.out.2.2.2.2.1 7 (by decide)
                simp only [Nat.zero_add] at z0 z1 z2 z3 z4 z5 z6 z7 n0 n1 n2 n3 n4 n5 n6 n7 k0 k1 k2 k3 k4 k5 k6 k7
                have hm2 := HR9.out.2.1
                have hq2 : w.heap.size + 1 < wr.heap.size := Nat.lt_trans HS.out.1 hm2
                have hne1 : ¬ u3.heap.size = w.heap.size + 1 := by have := HS.out.1; omega
                have hne2 : ¬ w.heap.size + 1 = u3.heap.size := by have := HS.out.1; omega
                clear hW hdl hk
                go_wp2_with (go_at_call 38; go_must (refine (HR2.out.2.1 _).mono ?_); rintro e w' ⟨⟨cc, rfl⟩, gh, rfl⟩)
                have hS1 := set8 wr u3.heap.size g0 g1 g2 g3 g4 g5 g6 g7 HR9.out.2.2.2.1
                have hS2 := set8 _ (w.heap.size + 1) g0 g1 g2 g3 g4 g5 g6 g7 (HR9.out.2.2.2.2.1.far hS1.1 hq2 (.inl hne2))
                refine bodyPost_ret (results_E8 rfl rfl (hS2.2.ext (hS2.1.lt (hS1.1.lt hq2)) _)) rfl ⟨by rw [HR2.out.1], ?_⟩
                exact (Turned.ext_of_new (Turned.ext_of_new HR9.out.1 hS1.1 (by have := HS.out.1; omega)) hS2.1 (Nat.le_succ _)).trans ⟨_, rfl⟩
        · have hz' : (cy 8 V != 0) = true := by simpa using hz
          obtain ⟨e0, e1, e2, e3, e4, e5, e6, e7, hde, _, b0, b1, b2, b3, b4, b5, b6, b7⟩ := E8_open V
          obtain ⟨f0, f1, f2, f3, f4, f5, f6, f7, hdf, hef, _⟩ := E8_open (red1 V)
          have hF := fold2 e0 e1 e2 e3 e4 e5 e6 e7 (cy 8 V) _ _ _ _ b0 b3 b6 b7 (by have := HV.out.2.1; omega) rfl rfl rfl rfl
          have hval : val [wrap64 (e0 + cy 8 V), e1, e2, wrap64 (e3 - cy 8 V), e4, e5, wrap64 (e6 - cy 8 V), wrap64 (e7 + cy 8 V)] = red1 V := by
            rw [hF.1, ← hde, mod_step]; rfl
          have hcar : ∀ w, Calls Try.prog 38 #[.agg #[.int .i64 (wrap64 (e0 + cy 8 V)), .int .i64 (e1), .int .i64 (e2), .int .i64 (wrap64 (e3 - cy 8 V)), .int .i64 (e4), .int .i64 (e5), .int .i64 (wrap64 (e6 - cy 8 V)), .int .i64 (wrap64 (e7 + cy 8 V))]] w fun e w' => e = .returned (.tuple #[.agg #[.int .i64 f0, .int .i64 f1, .int .i64 f2, .int .i64 f3, .int .i64 f4, .int .i64 f5, .int .i64 f6, .int .i64 f7], .int .i64 (cy 8 (red1 V))]) ∧ Ext w w' := fun w => by
            have h := carried_any [wrap64 (e0 + cy 8 V), e1, e2, wrap64 (e3 - cy 8 V), e4, e5, wrap64 (e6 - cy 8 V), wrap64 (e7 + cy 8 V)] rfl (fun x hx => by
              have h1 := hF.2
              simp only [List.mem_cons, List.not_mem_nil, or_false] at hx
              rcases hx with rfl | rfl | rfl | rfl | rfl | rfl | rfl | rfl <;> omega) w
            rw [hval, hef] at h
            exact h
          have HK := Lib.hid (And.intro hcar (And.intro hdf hde))
          clear hF hval hcar hdf hef hde b0 b1 b2 b3 b4 b5 b6 b7
          go_wp2_with (first
            | (refine wp_quiet_tail (l := [_, _, _]) 2 (by kernel_rfl) (by kernel_rfl) ?_; simp only [List.take_succ_cons, List.take_zero, List.drop_succ_cons, List.drop_zero]; (repeat (first | go_big_quiet_skip | (go_big_quiet_want; go_big_quiet_op; first | go_big_quiet_on))); refine wpQuiet_nil ?_; intro _ hw'; obtain ⟨nq, hw''⟩ := hw'; subst hw'')
            | (refine wpList_copy_held rfl _ _ 88 88 rfl 2 Try.underlying88 (by kernel_rfl) (k := .i64) wr.heap.size 0 8 16 u3.heap.size 0 8 (digs 8 V) rfl rfl (digs_length _ _) (HV.out.2.2.2.2.1.alloc HV.out.2.2.2.1 _) ((Free.newWords (len := 16) rfl rfl).sub (Nat.le_refl _) (by decide)) ?_; intro u5 hT hB; have H5 : Hid (Turned wr.heap.size 0 8 (wr.alloc (.cells #[.int .i64 0, .int .i64 0, .int .i64 0, .int .i64 0, .int .i64 0, .int .i64 0, .int .i64 0, .int .i64 0, .int .i64 0, .int .i64 0, .int .i64 0, .int .i64 0, .int .i64 0, .int .i64 0, .int .i64 0, .int .i64 0] 53)) u5 ∧ Held .i64 u5 wr.heap.size 0 (digs 8 V)) := Lib.hid ⟨hT.undrew, hB⟩; clear hT hB)
            | (go_at_call 37; go_must (refine (folded_any wr.heap.size 8 (cy 8 V) [e0, e1, e2, e3, e4, e5, e6, e7, 0, 0, 0, 0, 0, 0, 0, 0] rfl (by decide) u5 (wds16 H5.out.1 H5.out.2 HK.out.2.2) (fun o => (H5.out.1.frz o).trans (frozen_row (heap_at _ _ _ rfl) o))).mono ?_); rintro e u6 ⟨rfl, hT, hE⟩; have q0 : u6.cell? ⟨wr.heap.size, 0, none⟩ = some (.int .i64 (wrap64 (e0 + cy 8 V))) := hE 0 _ rfl; have q1 : u6.cell? ⟨wr.heap.size, 1, none⟩ = some (.int .i64 e1) := hE 1 _ rfl; have q2 : u6.cell? ⟨wr.heap.size, 2, none⟩ = some (.int .i64 e2) := hE 2 _ rfl; have q3 : u6.cell? ⟨wr.heap.size, 3, none⟩ = some (.int .i64 (wrap64 (e3 - cy 8 V))) := hE 3 _ rfl; have q4 : u6.cell? ⟨wr.heap.size, 4, none⟩ = some (.int .i64 e4) := hE 4 _ rfl; have q5 : u6.cell? ⟨wr.heap.size, 5, none⟩ = some (.int .i64 e5) := hE 5 _ rfl; have q6 : u6.cell? ⟨wr.heap.size, 6, none⟩ = some (.int .i64 (wrap64 (e6 - cy 8 V))) := hE 6 _ rfl; have q7 : u6.cell? ⟨wr.heap.size, 7, none⟩ = some (.int .i64 (wrap64 (e7 + cy 8 V))) := hE 7 _ rfl; have H6 := Lib.hid hT; clear hT hE)
            | (go_at_call 38; go_must (refine (HK.out.1 u6).mono ?_); rintro e u7 ⟨rfl, hE⟩; have H7 : Hid (Held .i64 u7 u3.heap.size 0 (digs 8 V) ∧ Free u7 u3.heap.size 0 8 ∧ Free u7 (w.heap.size + 1) 0 8 ∧ Ext w u7 ∧ u3.heap.size < u7.heap.size) := Lib.hid (red_frame HV.out.2.2.1 HV.out.2.2.2.1 HS.out.1 HV.out.2.2.2.2.1 HV.out.2.2.2.2.2.1 HV.out.2.2.2.2.2.2 H5.out.1 H6.out hE); clear hE; have hh := H7.out.1; rw [HK.out.2.2] at hh; have m0 := hh 0 e0 rfl; have m1 := hh 1 e1 rfl; have m2 := hh 2 e2 rfl; have m3 := hh 3 e3 rfl; have m4 := hh 4 e4 rfl; have m5 := hh 5 e5 rfl; have m6 := hh 6 e6 rfl; have m7 := hh 7 e7 rfl; simp only [Nat.zero_add] at m0 m1 m2 m3 m4 m5 m6 m7; have z0 := (H7.out.2.1 0 (by decide)).2; have z1 := (H7.out.2.1 1 (by decide)).2; have z2 := (H7.out.2.1 2 (by decide)).2; have z3 := (H7.out.2.1 3 (by decide)).2; have z4 := (H7.out.2.1 4 (by decide)).2; have z5 := (H7.out.2.1 5 (by decide)).2; have z6 := (H7.out.2.1 6 (by decide)).2; have z7 := (H7.out.2.1 7 (by decide)).2; simp only [Nat.zero_add] at z0 z1 z2 z3 z4 z5 z6 z7; clear hh))
          have hsl := stm_lt V hz HV.out.2.1
          have hfr := set8_frame f0 f1 f2 f3 f4 f5 f6 f7 H7.out.2.2.2.1 H7.out.2.2.2.2 (Nat.le_of_lt (Nat.lt_of_le_of_lt (Nat.le_succ _) HS.out.1)) H7.out.2.1 HS.out.1 H7.out.2.2.1
          rw [← HK.out.2.1] at hfr
          refine ⟨⟨red1 V, rfl, Lib.hid ⟨(emod_red1 V).trans HV.out.1, hsl.2, hfr.1, hfr.2.1, hfr.2.2.1, hfr.2.2.2.1, hfr.2.2.2.2⟩⟩, ?_⟩
          simp only [intOf]
          rw [vOf_eq hfr.2.2.1, vOf_eq HV.out.2.2.2.2.1]
          exact hsl.1
end Go.Proofs.Ytgdjmgcolipcnaa
