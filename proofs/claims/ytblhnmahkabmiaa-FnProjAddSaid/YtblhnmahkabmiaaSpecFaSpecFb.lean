/-
  What is proved here: what the reference's functions on the field return.
  Conditions: those of each theorem.
-/
import Derived.Test.YtblhnmahkabmiaaProg
import Derived.Test.YtblhnmahkabmiaaNumF
import Derived.BigRegion
import Derived.WalkKit
import Derived.WalkSpells
import Derived.Outline
import Derived.Handy
import Derived.ProofKit
import Derived.Deep.QuietTactic
import Derived.BigQuiet
import Derived.Lib.Hide
import Derived.OpenShut
import Derived.Test.YtblhnmahkabmiaaSpecA
import Derived.Test.YtblhnmahkabmiaaEngE
import Derived.Test.YtblhnmahkabmiaaByu
namespace Go.Proofs.Ytblhnmahkabmiaa
open Go Go.RowKit Ecp
set_option linter.unusedSimpArgs false
set_option linter.unusedVariables false

set_option maxRecDepth 100000 in
theorem folded_8 (b : Nat) (x1 x2 x5 x8 t : Int) (w : World) (h1 : w.cell? ⟨b, 7, none⟩ = some (.int .i64 x1)) (h2 : w.cell? ⟨b, 6, none⟩ = some (.int .i64 x2)) (h5 : w.cell? ⟨b, 3, none⟩ = some (.int .i64 x5)) (h8 : w.cell? ⟨b, 0, none⟩ = some (.int .i64 x8)) (hf : ∀ o, w.frozen? ⟨b, o, none⟩ = false) :
    Calls Try.prog 37 #[.pointer (some ⟨b, 0, none⟩), .int .i64 8, .int .i64 t] w fun e w' => e = .returned (.tuple #[]) ∧ ∃ n, w' = ((((w.setCell ⟨b, 7, none⟩ (.int .i64 (wrap64 (x1 + t)))).setCell ⟨b, 6, none⟩ (.int .i64 (wrap64 (x2 - t)))).setCell ⟨b, 3, none⟩ (.int .i64 (wrap64 (x5 - t)))).setCell ⟨b, 0, none⟩ (.int .i64 (wrap64 (x8 + t)))).drewN n := by
  go_enter Try.func37, Try.ntmps37
  go_wp2_with (go_region)
  exact bodyPost_end (results_none rfl _ _ _) rfl ⟨rfl, 4, rfl⟩
set_option maxRecDepth 100000 in
theorem folded_9 (b : Nat) (x1 x2 x5 x8 t : Int) (w : World) (h1 : w.cell? ⟨b, 8, none⟩ = some (.int .i64 x1)) (h2 : w.cell? ⟨b, 7, none⟩ = some (.int .i64 x2)) (h5 : w.cell? ⟨b, 4, none⟩ = some (.int .i64 x5)) (h8 : w.cell? ⟨b, 1, none⟩ = some (.int .i64 x8)) (hf : ∀ o, w.frozen? ⟨b, o, none⟩ = false) :
    Calls Try.prog 37 #[.pointer (some ⟨b, 0, none⟩), .int .i64 9, .int .i64 t] w fun e w' => e = .returned (.tuple #[]) ∧ ∃ n, w' = ((((w.setCell ⟨b, 8, none⟩ (.int .i64 (wrap64 (x1 + t)))).setCell ⟨b, 7, none⟩ (.int .i64 (wrap64 (x2 - t)))).setCell ⟨b, 4, none⟩ (.int .i64 (wrap64 (x5 - t)))).setCell ⟨b, 1, none⟩ (.int .i64 (wrap64 (x8 + t)))).drewN n := by
  go_enter Try.func37, Try.ntmps37
  go_wp2_with (go_region)
  exact bodyPost_end (results_none rfl _ _ _) rfl ⟨rfl, 4, rfl⟩
set_option maxRecDepth 100000 in
theorem folded_10 (b : Nat) (x1 x2 x5 x8 t : Int) (w : World) (h1 : w.cell? ⟨b, 9, none⟩ = some (.int .i64 x1)) (h2 : w.cell? ⟨b, 8, none⟩ = some (.int .i64 x2)) (h5 : w.cell? ⟨b, 5, none⟩ = some (.int .i64 x5)) (h8 : w.cell? ⟨b, 2, none⟩ = some (.int .i64 x8)) (hf : ∀ o, w.frozen? ⟨b, o, none⟩ = false) :
    Calls Try.prog 37 #[.pointer (some ⟨b, 0, none⟩), .int .i64 10, .int .i64 t] w fun e w' => e = .returned (.tuple #[]) ∧ ∃ n, w' = ((((w.setCell ⟨b, 9, none⟩ (.int .i64 (wrap64 (x1 + t)))).setCell ⟨b, 8, none⟩ (.int .i64 (wrap64 (x2 - t)))).setCell ⟨b, 5, none⟩ (.int .i64 (wrap64 (x5 - t)))).setCell ⟨b, 2, none⟩ (.int .i64 (wrap64 (x8 + t)))).drewN n := by
  go_enter Try.func37, Try.ntmps37
  go_wp2_with (go_region)
  exact bodyPost_end (results_none rfl _ _ _) rfl ⟨rfl, 4, rfl⟩
set_option maxRecDepth 100000 in
theorem folded_11 (b : Nat) (x1 x2 x5 x8 t : Int) (w : World) (h1 : w.cell? ⟨b, 10, none⟩ = some (.int .i64 x1)) (h2 : w.cell? ⟨b, 9, none⟩ = some (.int .i64 x2)) (h5 : w.cell? ⟨b, 6, none⟩ = some (.int .i64 x5)) (h8 : w.cell? ⟨b, 3, none⟩ = some (.int .i64 x8)) (hf : ∀ o, w.frozen? ⟨b, o, none⟩ = false) :
    Calls Try.prog 37 #[.pointer (some ⟨b, 0, none⟩), .int .i64 11, .int .i64 t] w fun e w' => e = .returned (.tuple #[]) ∧ ∃ n, w' = ((((w.setCell ⟨b, 10, none⟩ (.int .i64 (wrap64 (x1 + t)))).setCell ⟨b, 9, none⟩ (.int .i64 (wrap64 (x2 - t)))).setCell ⟨b, 6, none⟩ (.int .i64 (wrap64 (x5 - t)))).setCell ⟨b, 3, none⟩ (.int .i64 (wrap64 (x8 + t)))).drewN n := by
  go_enter Try.func37, Try.ntmps37
  go_wp2_with (go_region)
  exact bodyPost_end (results_none rfl _ _ _) rfl ⟨rfl, 4, rfl⟩
set_option maxRecDepth 100000 in
theorem folded_12 (b : Nat) (x1 x2 x5 x8 t : Int) (w : World) (h1 : w.cell? ⟨b, 11, none⟩ = some (.int .i64 x1)) (h2 : w.cell? ⟨b, 10, none⟩ = some (.int .i64 x2)) (h5 : w.cell? ⟨b, 7, none⟩ = some (.int .i64 x5)) (h8 : w.cell? ⟨b, 4, none⟩ = some (.int .i64 x8)) (hf : ∀ o, w.frozen? ⟨b, o, none⟩ = false) :
    Calls Try.prog 37 #[.pointer (some ⟨b, 0, none⟩), .int .i64 12, .int .i64 t] w fun e w' => e = .returned (.tuple #[]) ∧ ∃ n, w' = ((((w.setCell ⟨b, 11, none⟩ (.int .i64 (wrap64 (x1 + t)))).setCell ⟨b, 10, none⟩ (.int .i64 (wrap64 (x2 - t)))).setCell ⟨b, 7, none⟩ (.int .i64 (wrap64 (x5 - t)))).setCell ⟨b, 4, none⟩ (.int .i64 (wrap64 (x8 + t)))).drewN n := by
  go_enter Try.func37, Try.ntmps37
  go_wp2_with (go_region)
  exact bodyPost_end (results_none rfl _ _ _) rfl ⟨rfl, 4, rfl⟩
set_option maxRecDepth 100000 in
theorem folded_13 (b : Nat) (x1 x2 x5 x8 t : Int) (w : World) (h1 : w.cell? ⟨b, 12, none⟩ = some (.int .i64 x1)) (h2 : w.cell? ⟨b, 11, none⟩ = some (.int .i64 x2)) (h5 : w.cell? ⟨b, 8, none⟩ = some (.int .i64 x5)) (h8 : w.cell? ⟨b, 5, none⟩ = some (.int .i64 x8)) (hf : ∀ o, w.frozen? ⟨b, o, none⟩ = false) :
    Calls Try.prog 37 #[.pointer (some ⟨b, 0, none⟩), .int .i64 13, .int .i64 t] w fun e w' => e = .returned (.tuple #[]) ∧ ∃ n, w' = ((((w.setCell ⟨b, 12, none⟩ (.int .i64 (wrap64 (x1 + t)))).setCell ⟨b, 11, none⟩ (.int .i64 (wrap64 (x2 - t)))).setCell ⟨b, 8, none⟩ (.int .i64 (wrap64 (x5 - t)))).setCell ⟨b, 5, none⟩ (.int .i64 (wrap64 (x8 + t)))).drewN n := by
  go_enter Try.func37, Try.ntmps37
  go_wp2_with (go_region)
  exact bodyPost_end (results_none rfl _ _ _) rfl ⟨rfl, 4, rfl⟩
set_option maxRecDepth 100000 in
theorem folded_14 (b : Nat) (x1 x2 x5 x8 t : Int) (w : World) (h1 : w.cell? ⟨b, 13, none⟩ = some (.int .i64 x1)) (h2 : w.cell? ⟨b, 12, none⟩ = some (.int .i64 x2)) (h5 : w.cell? ⟨b, 9, none⟩ = some (.int .i64 x5)) (h8 : w.cell? ⟨b, 6, none⟩ = some (.int .i64 x8)) (hf : ∀ o, w.frozen? ⟨b, o, none⟩ = false) :
    Calls Try.prog 37 #[.pointer (some ⟨b, 0, none⟩), .int .i64 14, .int .i64 t] w fun e w' => e = .returned (.tuple #[]) ∧ ∃ n, w' = ((((w.setCell ⟨b, 13, none⟩ (.int .i64 (wrap64 (x1 + t)))).setCell ⟨b, 12, none⟩ (.int .i64 (wrap64 (x2 - t)))).setCell ⟨b, 9, none⟩ (.int .i64 (wrap64 (x5 - t)))).setCell ⟨b, 6, none⟩ (.int .i64 (wrap64 (x8 + t)))).drewN n := by
  go_enter Try.func37, Try.ntmps37
  go_wp2_with (go_region)
  exact bodyPost_end (results_none rfl _ _ _) rfl ⟨rfl, 4, rfl⟩
set_option maxRecDepth 100000 in
theorem folded_15 (b : Nat) (x1 x2 x5 x8 t : Int) (w : World) (h1 : w.cell? ⟨b, 14, none⟩ = some (.int .i64 x1)) (h2 : w.cell? ⟨b, 13, none⟩ = some (.int .i64 x2)) (h5 : w.cell? ⟨b, 10, none⟩ = some (.int .i64 x5)) (h8 : w.cell? ⟨b, 7, none⟩ = some (.int .i64 x8)) (hf : ∀ o, w.frozen? ⟨b, o, none⟩ = false) :
    Calls Try.prog 37 #[.pointer (some ⟨b, 0, none⟩), .int .i64 15, .int .i64 t] w fun e w' => e = .returned (.tuple #[]) ∧ ∃ n, w' = ((((w.setCell ⟨b, 14, none⟩ (.int .i64 (wrap64 (x1 + t)))).setCell ⟨b, 13, none⟩ (.int .i64 (wrap64 (x2 - t)))).setCell ⟨b, 10, none⟩ (.int .i64 (wrap64 (x5 - t)))).setCell ⟨b, 7, none⟩ (.int .i64 (wrap64 (x8 + t)))).drewN n := by
  go_enter Try.func37, Try.ntmps37
  go_wp2_with (go_region)
  exact bodyPost_end (results_none rfl _ _ _) rfl ⟨rfl, 4, rfl⟩
end Go.Proofs.Ytblhnmahkabmiaa
/-
  What is proved here: what the reference's functions on the field return.
  Conditions: those of each theorem.
-/
namespace Go.Proofs.Ytblhnmahkabmiaa
open Go Go.RowKit Ecp
set_option linter.unusedSimpArgs false
set_option linter.unusedVariables false

/-- Sixteen words in cells. -/
def Wds (w : World) (b : Nat) (l : List Int) : Prop := ∀ i x, l[i]? = some x → w.cell? ⟨b, i, none⟩ = some (.int .i64 x)

theorem Wds.at {w : World} {b : Nat} {l : List Int} (h : Wds w b l) {j : Nat} (hj : j < l.length) : w.cell? ⟨b, j, none⟩ = some (.int .i64 (l.getD j 0)) := h j _ (getD_in' hj)
theorem Wds.set {w : World} {b : Nat} {l : List Int} (h : Wds w b l) {j : Nat} (hj : j < l.length) (x : Int) : Wds (w.setCell ⟨b, j, none⟩ (.int .i64 x)) b (l.set j x) := by
  intro i y hi
  rw [cell_set _ _ _ _ _ (by rw [h.at hj]; rfl)]
  by_cases e : j = i
  · subst e
    rw [List.getElem?_set_self hj] at hi
    obtain rfl := Option.some.inj hi
    rw [if_pos rfl]
  · rw [List.getElem?_set_ne e] at hi
    rw [if_neg e]
    exact h i y hi
theorem Wds.drewN {w : World} {b : Nat} {l : List Int} (h : Wds w b l) (n : Nat) : Wds (w.drewN n) b l := h
/-- t goes into the words below word i. -/
def addAt (l : List Int) (i : Nat) (t : Int) : List Int :=
  let l1 := l.set (i - 1) (wrap64 (l.getD (i - 1) 0 + t))
  let l2 := l1.set (i - 2) (wrap64 (l.getD (i - 2) 0 - t))
  let l3 := l2.set (i - 5) (wrap64 (l.getD (i - 5) 0 - t))
  l3.set (i - 8) (wrap64 (l.getD (i - 8) 0 + t))
theorem addAt_length (l : List Int) (i : Nat) (t : Int) : (addAt l i t).length = l.length := by simp [addAt]
theorem turned_set4 (w : World) (b a1 a2 a3 a4 n : Nat) (v1 v2 v3 v4 : Value) (h1 : a1 < 16) (h2 : a2 < 16) (h3 : a3 < 16) (h4 : a4 < 16) :
    Turned b 0 16 w (((((w.setCell ⟨b, a1, none⟩ v1).setCell ⟨b, a2, none⟩ v2).setCell ⟨b, a3, none⟩ v3).setCell ⟨b, a4, none⟩ v4).drewN n) := by
  refine Turned.drewN ⟨((((Away.refl b w).setCell _ _).setCell _ _).setCell _ _).setCell _ _, fun i hi => ?_, fun i => ?_⟩ n
  · have e : ∀ j, j < 16 → i ≠ j := fun j hj => by have := hi j hj; omega
    have e1 := e a1 h1; have e2 := e a2 h2; have e3 := e a3 h3; have e4 := e a4 h4
    rw [World.cell?_setCell_other _ _ _ _ (by simp [Ne.symm e4]), World.cell?_setCell_other _ _ _ _ (by simp [Ne.symm e3]), World.cell?_setCell_other _ _ _ _ (by simp [Ne.symm e2]), World.cell?_setCell_other _ _ _ _ (by simp [Ne.symm e1])]
  · simp only [World.frozen?_setCell]
set_option maxHeartbeats 1000000 in
theorem folded_any (b i : Nat) (t : Int) (l : List Int) (hl : l.length = 16) (hi : 8 ≤ i ∧ i ≤ 15) (w : World) (h : Wds w b l) (hf : ∀ o, w.frozen? ⟨b, o, none⟩ = false) :
    Calls Try.prog 37 #[.pointer (some ⟨b, 0, none⟩), .int .i64 (i : Int), .int .i64 t] w fun e w' => e = .returned (.tuple #[]) ∧ Turned b 0 16 w w' ∧ Wds w' b (addAt l i t) := by
  have hA : ∀ j, j < 16 → w.cell? ⟨b, j, none⟩ = some (.int .i64 (l.getD j 0)) := fun j hj => h.at (by omega)
  have fin : ∀ n, Turned b 0 16 w (((((w.setCell ⟨b, i - 1, none⟩ (.int .i64 (wrap64 (l.getD (i - 1) 0 + t)))).setCell ⟨b, i - 2, none⟩ (.int .i64 (wrap64 (l.getD (i - 2) 0 - t)))).setCell ⟨b, i - 5, none⟩ (.int .i64 (wrap64 (l.getD (i - 5) 0 - t)))).setCell ⟨b, i - 8, none⟩ (.int .i64 (wrap64 (l.getD (i - 8) 0 + t)))).drewN n) ∧
      Wds (((((w.setCell ⟨b, i - 1, none⟩ (.int .i64 (wrap64 (l.getD (i - 1) 0 + t)))).setCell ⟨b, i - 2, none⟩ (.int .i64 (wrap64 (l.getD (i - 2) 0 - t)))).setCell ⟨b, i - 5, none⟩ (.int .i64 (wrap64 (l.getD (i - 5) 0 - t)))).setCell ⟨b, i - 8, none⟩ (.int .i64 (wrap64 (l.getD (i - 8) 0 + t)))).drewN n) b (addAt l i t) := fun n =>
    ⟨turned_set4 _ _ _ _ _ _ _ _ _ _ _ (by omega) (by omega) (by omega) (by omega), ((((h.set (by omega) _).set (by simp; omega) _).set (by simp; omega) _).set (by simp; omega) _).drewN n⟩
  rcases (show i = 8 ∨ i = 9 ∨ i = 10 ∨ i = 11 ∨ i = 12 ∨ i = 13 ∨ i = 14 ∨ i = 15 by omega) with rfl | rfl | rfl | rfl | rfl | rfl | rfl | rfl
  · refine (folded_8 b _ _ _ _ t w (hA 7 (by decide)) (hA 6 (by decide)) (hA 3 (by decide)) (hA 0 (by decide)) hf).mono ?_
    rintro e w' ⟨rfl, n, rfl⟩
    have := fin n
    simp only [Nat.reduceSub] at this
    exact ⟨rfl, this⟩
  · refine (folded_9 b _ _ _ _ t w (hA 8 (by decide)) (hA 7 (by decide)) (hA 4 (by decide)) (hA 1 (by decide)) hf).mono ?_
    rintro e w' ⟨rfl, n, rfl⟩
    have := fin n
    simp only [Nat.reduceSub] at this
    exact ⟨rfl, this⟩
  · refine (folded_10 b _ _ _ _ t w (hA 9 (by decide)) (hA 8 (by decide)) (hA 5 (by decide)) (hA 2 (by decide)) hf).mono ?_
    rintro e w' ⟨rfl, n, rfl⟩
    have := fin n
    simp only [Nat.reduceSub] at this
    exact ⟨rfl, this⟩
  · refine (folded_11 b _ _ _ _ t w (hA 10 (by decide)) (hA 9 (by decide)) (hA 6 (by decide)) (hA 3 (by decide)) hf).mono ?_
    rintro e w' ⟨rfl, n, rfl⟩
    have := fin n
    simp only [Nat.reduceSub] at this
    exact ⟨rfl, this⟩
  · refine (folded_12 b _ _ _ _ t w (hA 11 (by decide)) (hA 10 (by decide)) (hA 7 (by decide)) (hA 4 (by decide)) hf).mono ?_
    rintro e w' ⟨rfl, n, rfl⟩
    have := fin n
    simp only [Nat.reduceSub] at this
    exact ⟨rfl, this⟩
  · refine (folded_13 b _ _ _ _ t w (hA 12 (by decide)) (hA 11 (by decide)) (hA 8 (by decide)) (hA 5 (by decide)) hf).mono ?_
    rintro e w' ⟨rfl, n, rfl⟩
    have := fin n
    simp only [Nat.reduceSub] at this
    exact ⟨rfl, this⟩
  · refine (folded_14 b _ _ _ _ t w (hA 13 (by decide)) (hA 12 (by decide)) (hA 9 (by decide)) (hA 6 (by decide)) hf).mono ?_
    rintro e w' ⟨rfl, n, rfl⟩
    have := fin n
    simp only [Nat.reduceSub] at this
    exact ⟨rfl, this⟩
  · refine (folded_15 b _ _ _ _ t w (hA 14 (by decide)) (hA 13 (by decide)) (hA 10 (by decide)) (hA 7 (by decide)) hf).mono ?_
    rintro e w' ⟨rfl, n, rfl⟩
    have := fin n
    simp only [Nat.reduceSub] at this
    exact ⟨rfl, this⟩
end Go.Proofs.Ytblhnmahkabmiaa
