/-
  What is proved here: what the doors to a number modulo the order return.
  Conditions: those of each theorem.
-/
import Derived.Test.YtllnfnjcnhgbaaaRows
import Derived.Test.YtllnfnjcnhgbaaaOrdC
import Derived.WalkKit
import Derived.WalkSpells
import Derived.Outline
import Derived.Handy
import Derived.Lib.Hide
namespace Go.Proofs.Ytllnfnjcnhgbaaa
open Go.RowKit
set_option linter.unusedSimpArgs false
set_option linter.unusedVariables false

theorem ordRest_bd (a : Int) (h0 : 0 ≤ a) (h1 : a < R256) : 0 ≤ ordRest a ∧ ordRest a < R256 := by
  unfold ordRest
  by_cases h : a < ordN
  · rw [if_pos h]; exact ⟨h0, h1⟩
  · rw [if_neg h]
    simp only [ordN, R256] at *
    omega

set_option maxHeartbeats 2000000 in
set_option maxRecDepth 100000 in
theorem ZZOrdLimbs_any (c cap : Nat) (hcap : 32 ≤ cap) (l : Nat → Int) (hl : ∀ j, 0 ≤ l j ∧ l j < 256) (w : World) (hcw : c < w.heap.size)
    (hc : ∀ j, j < 32 → w.cell? ⟨c, j, none⟩ = some (.int .u8 (l j))) :
    Calls Try.prog 21 #[.slice (some ⟨c, 0, none⟩) 32 cap] w fun e w' => e = .returned (.tuple #[L4 (ordRest (be ((List.range 32).map l))), .nilIface]) ∧ Ext w w' := by
  have HL := Lib.hid hl
  have HC := Lib.hid hc
  clear hl hc
  have hne : Hid (¬ w.heap.size + 1 = c) := Lib.hid (by omega)
  go_enter Try.func21, Try.ntmps21
  go_wp2_with (go_at_call 30; (with_reducible refine (ord_SetBytes (w.heap.size + 1) c cap hcap hne l HL _ ?_ ?_ ?_ ?_ ?_ ?_).mono ?_); (· simp [go_sem]); (· simp [go_sem]); (· simp [go_sem]); (· simp [go_sem]); (· intro o; simp [go_sem]); (· exact Lib.hid fun j hj => (cell_al2 hcw _ _ j).trans (HC.out j hj)); rintro e w1 ⟨rfl, ⟨r0, r1, r2, r3, hr, k0, k1, k2, k3⟩, ha⟩; have HR := Lib.hid hr; have HA := Lib.hid ha; clear hr ha; have o0 : w1.cell? ⟨w.heap.size, 0, none⟩ = some (.int .u64 0) := (HA.out.cell (by simp <;> omega) (by omega) 0).trans (by simp [go_sem]); have o1 : w1.cell? ⟨w.heap.size, 1, none⟩ = some (.int .u64 0) := (HA.out.cell (by simp <;> omega) (by omega) 1).trans (by simp [go_sem]); have o2 : w1.cell? ⟨w.heap.size, 2, none⟩ = some (.int .u64 0) := (HA.out.cell (by simp <;> omega) (by omega) 2).trans (by simp [go_sem]); have o3 : w1.cell? ⟨w.heap.size, 3, none⟩ = some (.int .u64 0) := (HA.out.cell (by simp <;> omega) (by omega) 3).trans (by simp [go_sem]); have f0 : w1.frozen? ⟨w.heap.size, 0, none⟩ = false := (HA.out.frozen (by simp <;> omega) (by omega) 0).trans (by simp [go_sem]); have f1 : w1.frozen? ⟨w.heap.size, 1, none⟩ = false := (HA.out.frozen (by simp <;> omega) (by omega) 1).trans (by simp [go_sem]); have f2 : w1.frozen? ⟨w.heap.size, 2, none⟩ = false := (HA.out.frozen (by simp <;> omega) (by omega) 2).trans (by simp [go_sem]); have f3 : w1.frozen? ⟨w.heap.size, 3, none⟩ = false := (HA.out.frozen (by simp <;> omega) (by omega) 3).trans (by simp [go_sem]))
  refine bodyPost_ret (v := ?v1) (by simp [results, Try.results21, go_sem, o0, o1, o2, o3]; rfl) rfl ⟨?_, ?_⟩
  · unfold L4
    rw [← HR.out]
    rfl
  · refine Ext.of_below ?_
    have B0 : Below w.heap.size w w1 := (((Below.refl _ w).alloc (Nat.le_refl _) _).alloc (by simp) _).trans (HA.out.below (by omega) (by simp <;> omega))
    repeat (first | (with_reducible exact B0) | (with_reducible refine Below.setCell ?_ (by simp <;> omega) _))

set_option maxHeartbeats 2000000 in
set_option maxRecDepth 100000 in
theorem OrdLimbs_impl (b o c : Nat) (l : Nat → Int) (hl : ∀ j, 0 ≤ l j ∧ l j < 256) (w : World) (hbw : b < w.heap.size)
    (hc : ∀ j, j < 32 → w.cell? ⟨b, o + j, none⟩ = some (.int .u8 (l j))) :
    Calls Try.prog 11 #[.slice (some ⟨b, o, none⟩) 32 c] w fun e w' => e = .returned (.tuple #[L4 (ordRest (be ((List.range 32).map l))), .bool true]) ∧ Ext w w' := by
  have HL := Lib.hid hl
  have HC := Lib.hid hc
  clear hl hc
  obtain ⟨d0, d1, d2, d3, hd, he, _⟩ := L4_open (ordRest (be ((List.range 32).map l)))
  have HE := Lib.hid he
  clear hd he
  go_enter Try.func11, Try.ntmps11
  go_wp2_with (first
    | (go_at_call 22; (with_reducible refine (Clone_any b o 32 c l _ (by omega) (by omega) ?_).mono ?_); (· intro j hj; exact (cell_al1 hbw _ _).trans (HC.out j hj)); rintro e w1 ⟨g, cap, rfl, hg0, hg1, hcap, hcell, hfz, g1, rfl⟩; have HG := Lib.hid (And.intro hg0 (And.intro hg1 (And.intro hcell hfz))); clear hg0 hg1 hcell hfz)
    | (go_at_call 21; (with_reducible refine (ZZOrdLimbs_any g cap hcap l HL.out _ HG.out.2.1 HG.out.2.2.1).mono ?_); rintro e w1 ⟨rfl, g2, rfl⟩; rw [HE.out, ext_ext])
    | go_region)
  all_goals
    refine bodyPost_ret (v := .tuple #[.agg #[.int .u64 d0, .int .u64 d1, .int .u64 d2, .int .u64 d3], .bool true]) (by simp [results, Try.results11, go_sem]) rfl ⟨?_, ?_⟩
    · rw [HE.out]
    · (refine Ext.of_below ?_; (repeat (first | exact Below.refl _ _ | refine below_drewN' ?_ _ | refine below_ext ?_ (by simp <;> omega) _ | apply Below.drew | refine Below.setCell ?_ (by simp <;> omega) _ | refine Below.alloc ?_ (by simp <;> omega) _)))

set_option maxHeartbeats 2000000 in
set_option maxRecDepth 100000 in
theorem ZZOrdBytes_any (c cap : Nat) (hcap : 32 ≤ cap) (l : Nat → Int) (hl : ∀ j, 0 ≤ l j ∧ l j < 256) (w : World) (hcw : c < w.heap.size)
    (hc : ∀ j, j < 32 → w.cell? ⟨c, j, none⟩ = some (.int .u8 (l j))) :
    Calls Try.prog 26 #[.slice (some ⟨c, 0, none⟩) 32 cap] w fun e w' => ∃ g, e = .returned (.tuple #[.slice (some ⟨g, 0, none⟩) 32 32, .nilIface]) ∧
      w.heap.size ≤ g ∧ g < w'.heap.size ∧ (∀ j, j < 32 → w'.cell? ⟨g, j, none⟩ = some (.int .u8 (bytesAt (ordRest (be ((List.range 32).map l))) j))) ∧ Ext w w' := by
  have HL := Lib.hid hl
  have HC := Lib.hid hc
  clear hl hc
  have hne : Hid (¬ w.heap.size = c) := Lib.hid (by omega)
  have hbe := be_bd ((List.range 32).map l) (by simp) (by intro x hx; obtain ⟨j, _, rfl⟩ := List.mem_map.1 hx; exact HL.out j)
  have hr := ordRest_bd _ hbe.1 hbe.2
  have HQ := Lib.hid (And.intro hr (qds_bd 4 (ordRest (be ((List.range 32).map l)))))
  clear hbe hr
  go_enter Try.func26, Try.ntmps26
  go_wp2_with (first
    | (go_at_call 30; (with_reducible refine (ord_SetBytes w.heap.size c cap hcap hne l HL _ ?_ ?_ ?_ ?_ ?_ ?_).mono ?_); (· simp [go_sem]); (· simp [go_sem]); (· simp [go_sem]); (· simp [go_sem]); (· intro o; simp [go_sem]); (· exact Lib.hid fun j hj => (cell_al1 hcw _ j).trans (HC.out j hj)); rintro e w1 ⟨rfl, ⟨r0, r1, r2, r3, hr, k0, k1, k2, k3⟩, ha⟩; have HR := Lib.hid hr; have HA := Lib.hid ha; clear hr ha; have HK := Lib.hid (And.intro k0 (And.intro k1 (And.intro k2 k3))); clear k0 k1 k2 k3; have HBQ : Hid (∀ x ∈ [r0, r1, r2, r3], 0 ≤ x ∧ x < 18446744073709551616) := Lib.hid (by rw [HR.out]; exact HQ.out.2); have hsz : w.heap.size < w1.heap.size := Nat.lt_of_lt_of_le (by simp) HA.out.2.2.2.1)
    | (go_at_call 31; (with_reducible refine (ord_Bytes w.heap.size r0 r1 r2 r3 (HBQ.out r0 (by simp)) (HBQ.out r1 (by simp)) (HBQ.out r2 (by simp)) (HBQ.out r3 (by simp)) w1 hsz HK.out.1 HK.out.2.1 HK.out.2.2.1 HK.out.2.2.2).mono ?_); rintro e w2 ⟨g, rfl, hg0, hg1, hcell, hx⟩; have HX := Lib.hid (And.intro hg0 (And.intro hg1 (And.intro hcell hx))); clear hg0 hg1 hcell hx))
  go_ret2
  obtain ⟨hg0, hg1, hcell, hx⟩ := HX.out
  have hs : w.heap.size + 1 ≤ w1.heap.size := by have := HA.out.2.2.2.1; simp at this; exact this
  refine ⟨g, rfl, by omega, hg1, ?_, ?_⟩
  · rw [HR.out, qal_L4 HQ.out.1.1 HQ.out.1.2] at hcell
    exact hcell
  · have B0 : Below w.heap.size w w1 := ((Below.refl _ w).alloc (Nat.le_refl _) _).trans (HA.out.below (Nat.le_refl _) (by simp))
    exact Ext.of_below (B0.trans (hx.below.mono (by omega)))

set_option maxHeartbeats 2000000 in
set_option maxRecDepth 100000 in
theorem OrdBytes_impl (b o c : Nat) (l : Nat → Int) (hl : ∀ j, 0 ≤ l j ∧ l j < 256) (w : World) (hbw : b < w.heap.size)
    (hc : ∀ j, j < 32 → w.cell? ⟨b, o + j, none⟩ = some (.int .u8 (l j))) :
    Calls Try.prog 15 #[.slice (some ⟨b, o, none⟩) 32 c] w fun e w' => ∃ g, e = .returned (.tuple #[.slice (some ⟨g, 0, none⟩) 32 32, .bool true]) ∧
      w.heap.size ≤ g ∧ g < w'.heap.size ∧ (∀ j, j < 32 → w'.cell? ⟨g, j, none⟩ = some (.int .u8 (bytesAt (ordRest (be ((List.range 32).map l))) j))) ∧ Ext w w' := by
  have HL := Lib.hid hl
  have HC := Lib.hid hc
  clear hl hc
  go_enter Try.func15, Try.ntmps15
  go_wp2_with (first
    | (go_at_call 22; (with_reducible refine (Clone_any b o 32 c l _ (by omega) (by omega) HC.out).mono ?_); rintro e w1 ⟨g, cap, rfl, hg0, hg1, hcap, hcell, hfz, hx⟩; have HG := Lib.hid (And.intro hg0 (And.intro hg1 (And.intro hcell (And.intro hfz hx)))); clear hg0 hg1 hcell hfz hx)
    | (go_at_call 26; (with_reducible refine (ZZOrdBytes_any g cap hcap l HL.out w1 HG.out.2.1 HG.out.2.2.1).mono ?_); rintro e w2 ⟨g2, rfl, hg0, hg1, hcell, hx⟩; have HX := Lib.hid (And.intro hg0 (And.intro hg1 (And.intro hcell hx))); clear hg0 hg1 hcell hx)
    | (go_quiet (fail)))
  go_ret2
  obtain ⟨hg0, hg1, hcell, hx⟩ := HX.out
  have hs := HG.out.2.2.2.2.below.size
  refine ⟨g2, rfl, by omega, hg1, hcell, ?_⟩
  exact Ext.of_below (below_drewN' (Ext.below (HG.out.2.2.2.2.trans hx)) _)
end Go.Proofs.Ytllnfnjcnhgbaaa
