/-
  What is proved here: what the thin package's multiple of a point returns.
  Conditions: those of each theorem.
-/
import Derived.Test.YtgdjmgcolipcnaaProg
import Derived.Test.YtgdjmgcolipcnaaScwSca
import Derived.Test.YtgdjmgcolipcnaaMulTabMlt
import Derived.WalkKit
import Derived.WalkSpells
import Derived.Outline
import Derived.Handy
import Derived.ProofKit
import Derived.Deep.QuietTactic
import Derived.BigQuiet
import Derived.BigRegion
import Derived.Lib.Hide
import Derived.OpenShut
namespace Go.Proofs.Ytgdjmgcolipcnaa
open Go Go.RowKit Ecp
set_option linter.unusedSimpArgs false
set_option linter.unusedVariables false
/-- The bytes of a number. -/
def kby (K : Nat) (j : Nat) : Int := (bds 32 (K : Int)).reverse.getD j 0
theorem kby_bd (K : Nat) (j : Nat) : 0 ≤ kby K j ∧ kby K j < 256 := by
  unfold kby
  by_cases h : j < (bds 32 (K : Int)).reverse.length
  · have e : (bds 32 (K : Int)).reverse.getD j 0 = (bds 32 (K : Int)).reverse[j] := by
      rw [List.getD_eq_getElem?_getD, List.getElem?_eq_getElem h]
      rfl
    rw [e]
    exact bds_bd 32 (K : Int) _ (List.mem_reverse.1 (List.getElem_mem h))
  · have e : (bds 32 (K : Int)).reverse.getD j 0 = 0 := by
      rw [List.getD_eq_getElem?_getD, List.getElem?_eq_none (by omega)]
      rfl
    rw [e]
    decide
theorem kby_be (K : Nat) (hK : (K : Int) < R256) : be ((List.range 32).map (kby K)) = (K : Int) := by
  have e : (List.range 32).map (kby K) = (bds 32 (K : Int)).reverse := by
    have hl : (bds 32 (K : Int)).reverse.length = 32 := by rw [List.length_reverse, bds_length]
    refine List.ext_getElem (by simp [hl]) (fun i h1 h2 => ?_)
    rw [List.getElem_map, List.getElem_range]
    unfold kby
    rw [List.getD_eq_getElem?_getD, List.getElem?_eq_getElem h2]
    rfl
  rw [e]
  exact be_bc (by omega) hK
theorem kby_cell {w : World} {b K : Nat} {t : TypeId} {fr : Nat × Nat} (h : w.heap[b]? = some (.cells (bc (K : Int)) t fr)) (j : Nat) (hj : j < 32) : w.cell? ⟨b, j, none⟩ = some (.int .u8 (kby K j)) := by
  rw [cell_of_row w b j _ t fr h, bc_at _ _ hj]
  rfl

set_option maxHeartbeats 2000000 in
set_option maxRecDepth 100000 in
theorem ProjMult_any (x y z : Fp) (hok : affOk x y z) (K : Nat) (hK : (K : Int) < R256) (w : World) : Calls Try.prog 5 #[.agg (tc (x.val : Int) (y.val : Int) (z.val : Int)), .agg (bc (K : Int))] w fun e w' => ∃ X Y Z : Fp, e = .returned (.tuple #[.agg (tc (X.val : Int) (Y.val : Int) (Z.val : Int)), .bool true]) ∧ Ext w w' ∧ affOk X Y Z ∧ affP X Y Z = pm K (affP x y z) := by
  have HP1 := Lib.hid (projected_any x y z)
  have HK := Lib.hid (And.intro hok hK)
  clear hok hK
  go_enter Try.func5, Try.ntmps5
  go_wp2_with (first
    | (refine wpList_alloc_row rfl 24 _ rfl zeroT ?_)
    | (go_at_call 15; go_must (with_reducible refine (HP1.out _).mono ?_); rintro e w1 ⟨b1, rfl, hc1, hb1, hE1, hf1, hp1⟩)
    | (first | (refine wpList_load_rowW rfl 24 _ rfl _ rfl _ _ _ _ (by with_reducible first | assumption | (simp only [hsA, setRow_heap]; first | done | rfl) | (repeat (first | assumption | (refine heap_at _ _ _ ?_; simp only [hsA, setRow_heap]; done) | refine ext_row (Ext.al _ _) ?_ | refine ext_row (Ext.gr _ _) ?_ | refine ext_row (by assumption) ?_))) Try.underlying24 rfl (inT _ _ _) ?_) | (refine wpList_store_rowW rfl 24 _ _ rfl _ _ rfl rfl _ _ (by with_reducible first | assumption | (simp only [hsA, setRow_heap]; first | done | rfl) | (repeat (first | assumption | (refine heap_at _ _ _ ?_; simp only [hsA, setRow_heap]; done) | refine ext_row (Ext.al _ _) ?_ | refine ext_row (Ext.gr _ _) ?_ | refine ext_row (by assumption) ?_))) (inT _ _ _) (by simp only [ec_size, bc_size, pc_size, tc_size, ec_size, bc_size, pc_size, tc_size]; try rfl) (tc_one _ _ _) ?_))
    | fail)
  have hs1 : w.heap.size + 1 + 1 + 1 ≤ w1.heap.size := by have := hE1.below.size; simpa using this
  have hg1 : w.heap.size + 1 + 1 + 1 ≤ b1 := by simpa using hc1
  have hr1 : w1.heap[w.heap.size + 1]? = some (.cells (bc (K : Int)) 22 (0, 0)) := (by with_reducible first | assumption | (simp only [hsA, setRow_heap]; first | done | rfl) | (repeat (first | assumption | (refine heap_at _ _ _ ?_; simp only [hsA, setRow_heap]; done) | refine ext_row (Ext.al _ _) ?_ | refine ext_row (Ext.gr _ _) ?_ | refine ext_row (by assumption) ?_)))
  have hr2 : w1.heap[w.heap.size + 1 + 1]? = some (.cells (tc 0 0 0) 24 (0, 0)) := (by with_reducible first | assumption | (simp only [hsA, setRow_heap]; first | done | rfl) | (repeat (first | assumption | (refine heap_at _ _ _ ?_; simp only [hsA, setRow_heap]; done) | refine ext_row (Ext.al _ _) ?_ | refine ext_row (Ext.gr _ _) ?_ | refine ext_row (by assumption) ?_)))
  have HW := Lib.hid (And.intro hs1 (And.intro hg1 (And.intro hr1 (And.intro hr2 (And.intro hE1 (show PtAt w1 b1 (affP x y z) from ⟨hb1, hf1, ⟨x, y, z, hp1, HK.out.1, rfl⟩⟩))))))
  clear hs1 hg1 hr1 hr2 hE1 hb1 hf1 hp1 hc1
  go_region_with (first
    | (go_at_call 16; (refine (NewPt _).mono ?_); rintro e w2 ⟨rfl, hE2, hp2⟩; have H2 := Lib.hid (And.intro hE2 hp2); clear hE2 hp2)
    | (go_at_call 17; (refine (ScalarMult_any w1.heap.size b1 (w.heap.size + 1) 32 (Nat.le_refl _) (kby K) (kby_bd K) K (kby_be K HK.out.2) HK.out.2 .far (affP x y z) w2 H2.out.2 (H2.out.1.pt HW.out.2.2.2.2.2) (Nat.ne_of_lt HW.out.2.2.2.2.2.lt) (H2.out.1.lt (Nat.lt_of_lt_of_le (by omega) HW.out.1)) (by have := HW.out.1; omega) (fun j hj => kby_cell (ext_heap H2.out.1 HW.out.2.2.1) j hj)).mono ?_); rintro e w3 ⟨rfl, hT, hp3⟩; have H3 := Lib.hid (And.intro hT hp3); clear hT hp3)
    | fail)
  all_goals
    simp only [List.getElem_toArray, List.getElem_cons_succ, List.getElem_cons_zero]
    obtain ⟨hlt, hfr, X, Y, Z, hpt, hok, haff⟩ := H3.out.2
    have hr4 := Away.row H3.out.1.away (ext_row H2.out.1 HW.out.2.2.2.1) (by have := HW.out.1; omega)
    have hE4 : Ext w w3 := Turned.ext_of_new ((((Ext.al w _).trans (Ext.al _ _)).trans (Ext.al _ _)).trans (HW.out.2.2.2.2.1.trans H2.out.1)) H3.out.1 (by have := HW.out.1; omega)
    have HZ := Lib.hid (And.intro hlt (And.intro hpt (And.intro hok haff)))
    clear hlt hfr hpt hok haff
    go_wp2_with (first
      | (go_at_call 18; go_must (refine (triple_any w1.heap.size X Y Z w3 HZ.out.1 HZ.out.2.1).mono ?_); rintro e w5 ⟨rfl, hE5⟩; have hr5 := ext_heap hE5 hr4)
      | (refine wpList_store_rowW rfl 24 _ _ rfl _ _ rfl rfl _ _ hr5 (inT _ _ _) (by simp only [ec_size, bc_size, pc_size, tc_size, ec_size, bc_size, pc_size, tc_size]; try rfl) (tc_one _ _ _) ?_)
      | fail)
    exact bodyPost_ret (results_cell_tmp rfl _ _ _ 24 _ (0, 0) _ rfl _ rfl (setRow_heap _ _ _ _ _ _ hr5) Try.underlying24 rfl (inT _ _ _)) rfl ⟨X, Y, Z, rfl, (hE4.trans hE5).setRow (by omega) _, HZ.out.2.2.1, HZ.out.2.2.2⟩
end Go.Proofs.Ytgdjmgcolipcnaa
