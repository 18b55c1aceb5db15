/-
  What is proved here: the plain law of the reference's product: rows of words, and what the walk keeps of the memory.
  Conditions: those of each theorem.
-/
import Derived.Test.YtblhnmahkabmiaaProg
import Derived.Test.YtblhnmahkabmiaaSpecPSpecQ
import Derived.WalkKit
import Derived.WalkSpells
import Derived.Outline
import Derived.Handy
import Derived.ProofKit
import Derived.Deep.QuietTactic
import Derived.BigQuiet
import Derived.Lib.Hide
import Derived.OpenShut
namespace Go.Proofs.Ytblhnmahkabmiaa
open Go Go.RowKit Ecp
set_option linter.unusedSimpArgs false
set_option linter.unusedVariables false

theorem val_set : ∀ (l : List Int) (j : Nat) (x : Int), j < l.length → val (l.set j x) = val l + (x - l.getD j 0) * 4294967296 ^ j
  | [], _, _, h => by simp at h
  | a :: l, 0, x, _ => by simp [val]; omega
  | a :: l, j + 1, x, h => by
    have := val_set l j x (by simpa using h)
    simp only [List.set_cons_succ, val, this, List.getD_cons_succ, Int.pow_succ]
    grind
theorem val_take : ∀ (l : List Int) (k : Nat), k < l.length → val (l.take (k + 1)) = val (l.take k) + l.getD k 0 * 4294967296 ^ k
  | [], _, h => by simp at h
  | a :: l, 0, _ => by simp [val]
  | a :: l, k + 1, h => by
    have := val_take l k (by simpa using h)
    simp only [List.take_succ_cons, val, List.getD_cons_succ, Int.pow_succ] at this ⊢
    rw [this]
    grind
def Bnd (l : List Int) : Prop := ∀ x ∈ l, 0 ≤ x ∧ x < 4294967296
theorem Bnd.at {l : List Int} (h : Bnd l) (j : Nat) : 0 ≤ l.getD j 0 ∧ l.getD j 0 < 4294967296 := by
  by_cases hj : j < l.length
  · have : l.getD j 0 = l[j] := by simp [List.getD, hj]
    rw [this]; exact h _ (List.getElem_mem hj)
  · have : l.getD j 0 = 0 := by simp [List.getD, List.getElem?_eq_none (Nat.le_of_not_lt hj)]
    rw [this]; decide
theorem Bnd.set {l : List Int} (h : Bnd l) (j : Nat) {x : Int} (h0 : 0 ≤ x) (h1 : x < 4294967296) : Bnd (l.set j x) := fun y hy => by
  rcases List.mem_or_eq_of_mem_set hy with h2 | rfl
  · exact h y h2
  · exact ⟨h0, h1⟩
/-- Behind i rows. -/
def RowsS (la lb : List Int) (i : Nat) (L : List Int) : Prop :=
  L.length = 16 ∧ Bnd L ∧ (∀ j, i + 8 ≤ j → L.getD j 0 = 0) ∧ val L = val (la.take i) * val lb
/-- In row i, behind k words. -/
def RowS (la lb : List Int) (i k : Nat) (c : Int) (L : List Int) : Prop :=
  L.length = 16 ∧ Bnd L ∧ (0 ≤ c ∧ c < 4294967296) ∧ (∀ j, i + 8 ≤ j → L.getD j 0 = 0) ∧ val L + c * 4294967296 ^ (i + k) = val (la.take i) * val lb + la.getD i 0 * val (lb.take k) * 4294967296 ^ i
theorem RowsS.start (la lb : List Int) : RowsS la lb 0 [0, 0, 0, 0, 0, 0, 0, 0, 0, 0, 0, 0, 0, 0, 0, 0] := by
  refine ⟨rfl, fun x hx => ?_, fun j hj => ?_, by simp [val]⟩
  · simp only [List.mem_cons, List.not_mem_nil, or_false, or_self] at hx
    subst hx; decide
  · by_cases h : j < 16
    · rcases (show j = 8 ∨ j = 9 ∨ j = 10 ∨ j = 11 ∨ j = 12 ∨ j = 13 ∨ j = 14 ∨ j = 15 by omega) with rfl | rfl | rfl | rfl | rfl | rfl | rfl | rfl <;> rfl
    · rw [List.getD, List.getElem?_eq_none (by simp; omega)]; rfl
theorem RowsS.row {la lb : List Int} {i : Nat} {L : List Int} (h : RowsS la lb i L) : RowS la lb i 0 0 L :=
  ⟨h.1, h.2.1, by decide, h.2.2.1, by rw [h.2.2.2]; simp [val]⟩
theorem mul_bd {x y : Int} (hx0 : 0 ≤ x) (hx : x < 4294967296) (hy0 : 0 ≤ y) (hy : y < 4294967296) : 0 ≤ x * y ∧ x * y ≤ 18446744065119617025 := by
  refine ⟨Int.mul_nonneg hx0 hy0, ?_⟩
  have := Int.mul_le_mul (a := x) (b := y) (c := 4294967295) (d := 4294967295) (by omega) (by omega) hy0 (by decide)
  omega
theorem row_alg (vL c P A T Bk x l q r B PI B' : Int) (h : vL + c * P = T + A * Bk * PI) (hs : c + (l + A * x) = q * B + r) (hP : P = PI * B') : vL + (r - l) * P + q * (P * B) = T + A * (Bk + x * B') * PI := by
  subst hP
  have e : r = c + (l + A * x) - q * B := by omega
  subst e
  grind
theorem RowS.step {la lb : List Int} {i k : Nat} {c : Int} {L : List Int} (h : RowS la lb i k c L) (hi : i < 8) (hk : k < 8) (hla : Bnd la) (hlb : Bnd lb) (hlb8 : lb.length = 8) (s : Int) (hs : s = c + (L.getD (i + k) 0 + la.getD i 0 * lb.getD k 0)) :
    RowS la lb i (k + 1) (s / 4294967296) (L.set (i + k) (s % 4294967296)) ∧ 0 ≤ s ∧ s < 18446744073709551616 := by
  have hw := h.2.1.at (i + k)
  have hm := mul_bd (hla.at i).1 (hla.at i).2 (hlb.at k).1 (hlb.at k).2
  have hc := h.2.2.1
  have hs0 : 0 ≤ s ∧ s < 18446744073709551616 := by
    obtain ⟨m, hmm⟩ : ∃ m, m = la.getD i 0 * lb.getD k 0 := ⟨_, rfl⟩
    rw [← hmm] at hs hm
    omega
  refine ⟨⟨by rw [List.length_set]; exact h.1, h.2.1.set _ (Int.emod_nonneg _ (by decide)) (Int.emod_lt_of_pos _ (by decide)), by omega, fun j hj => ?_, ?_⟩, hs0⟩
  · refine Eq.trans ?_ (h.2.2.2.1 j hj)
    simp only [List.getD]
    rw [List.getElem?_set_ne (by omega)]
  · rw [val_set _ _ _ (by rw [h.1]; omega), val_take _ _ (by omega)]
    rw [show i + (k + 1) = (i + k) + 1 by omega, Int.pow_succ]
    refine row_alg _ c _ _ _ _ _ _ _ _ _ _ _ h.2.2.2.2 ?_ (by rw [Int.pow_add])
    rw [← hs]
    omega
theorem RowS.done {la lb : List Int} {i : Nat} {c : Int} {L : List Int} (h : RowS la lb i 8 c L) (hi : i < 8) (hla8 : la.length = 8) (hlb8 : lb.length = 8) : RowsS la lb (i + 1) (L.set (i + 8) c) := by
  refine ⟨by rw [List.length_set]; exact h.1, h.2.1.set _ h.2.2.1.1 h.2.2.1.2, fun j hj => ?_, ?_⟩
  · refine Eq.trans ?_ (h.2.2.2.1 j (by omega))
    simp only [List.getD]
    rw [List.getElem?_set_ne (by omega)]
  · rw [val_set _ _ _ (by rw [h.1]; omega), h.2.2.2.1 (i + 8) (by omega), val_take _ _ (by omega)]
    have h2 := h.2.2.2.2
    rw [show lb.take 8 = lb by rw [List.take_of_length_le]; omega] at h2
    rw [Int.sub_zero, h2]
    grind
/-- What the walk keeps of the memory: the two factors, the words, and the place of the result. -/
structure TmS (w wr : World) (n : Nat) (la lb L : List Int) : Prop where
  ext : Ext w wr
  lt : n + 3 < wr.heap.size
  ge : w.heap.size ≤ n
  a : Wds wr n la
  b : Wds wr (n + 1) lb
  l : Wds wr (n + 3) L
  free : ∀ j, wr.frozen? ⟨n + 3, j, none⟩ = false
  out : Free wr (n + 2) 0 8
theorem TmS.drew {w wr : World} {n : Nat} {la lb L : List Int} (h : TmS w wr n la lb L) (q : Nat) : TmS w (wr.drewN q) n la lb L :=
  ⟨Turned.ext_of_new h.ext ((Turned.refl (n + 3) 0 0 wr).drewN q) (by have := h.ge; omega), h.lt, h.ge, h.a.drewN q, h.b.drewN q, h.l.drewN q, h.free, h.out.drewN q⟩
theorem TmS.set {w wr : World} {n : Nat} {la lb L : List Int} (h : TmS w wr n la lb L) {j : Nat} (hj : j < L.length) (x : Int) : TmS w (wr.setCell ⟨n + 3, j, none⟩ (.int .i64 x)) n la lb (L.set j x) := by
  have T := Turned.set1 wr (n + 3) j L.length (.int .i64 x) hj
  have hl := h.lt
  have hg := h.ge
  refine ⟨Turned.ext_of_new h.ext T (by omega), T.lt hl, hg, wds_of ((held_of h.a).far T (by omega) (.inl (by omega))), wds_of ((held_of h.b).far T (by omega) (.inl (by omega))), h.l.set hj x, fun i => by rw [World.frozen?_setCell]; exact h.free i, h.out.far T (by omega) (.inl (by omega))⟩
end Go.Proofs.Ytblhnmahkabmiaa
