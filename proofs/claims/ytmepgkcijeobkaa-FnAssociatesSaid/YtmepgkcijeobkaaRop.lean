/-
  What is proved here: whether all slices are points, whether two are alike.
  Conditions: those of each theorem.
-/
import Derived.Test.YtmepgkcijeobkaaProg
import Derived.Test.YtmepgkcijeobkaaRdaLaw0Rod
import Derived.Deep.RegionHeld3
import Derived.WalkKit
import Derived.WalkSpells
import Derived.Outline
import Derived.Handy
import Derived.ProofKit
import Derived.Deep.QuietTactic
import Derived.BigQuiet
import Derived.Lib.Hide
import Derived.OpenShut
namespace Go.Proofs.Ytmepgkcijeobkaa
open Go Go.RowKit Ecp
set_option linter.unusedSimpArgs false
set_option linter.unusedVariables false
set_option maxHeartbeats 2000000 in
set_option maxRecDepth 100000 in
theorem points1_good (B k : Nat) (a0 : Option Addr) (n0 k0 : Nat) (f0 : Bool) (X0 Y0 : Int) (w : World) (q0 : w.cell? ⟨B, 0, none⟩ = some (.slice a0 n0 k0)) (h0 : ∀ w1, Ext w w1 → Calls Try.prog 22 #[.slice a0 n0 k0] w1 fun e w2 => e = .returned (.tuple #[.agg (pc f0 X0 Y0), .bool true]) ∧ Ext w1 w2) : Calls Try.prog 48 #[.slice (some ⟨B, 0, none⟩) 1 k] w fun e w' => e = .returned (.bool true) ∧ Ext w w' := by
  have H0 := Lib.hid h0
  have Q0 := Lib.hid q0
  clear h0 q0
  go_enter Try.func48, Try.ntmps48
  go_wp2_with (fail)
  refine wp_loop_rounds 2 ?_
  iterate 1 (rw [rounds_succ]; go_wp2_with (first | (refine wpList_load_sl rfl _ rfl _ _ rfl _ (cell_ext' (by (repeat (first | exact Ext.refl _ | refine Ext.trans ?_ (Ext.al _ _) | refine Ext.trans ?_ (Ext.gr _ _))) : Ext w _) Q0.out) ?_) | (go_at_call 22; ((with_reducible refine (H0.out _ (by (repeat (exact Ext.refl _)))).mono ?_); rintro e w' ⟨rfl, g0, rfl⟩)) | ((refine wpList_store_rowW rfl 26 _ _ rfl _ _ rfl rfl _ _ (by (with_reducible first | (simp only [hsA, setRow_heap]; rfl) | (repeat (fail)))) (inP _ _ _) (by simp only [ec_size, bc_size, pc_size, tc_size, ec_size, bc_size, pc_size, tc_size]; try rfl) (pc_one _ _ _) ?_; (try simp only [nmA])))))
  rw [rounds_succ]
  go_wp2_with (fail)
  refine bodyPost_ret (v := .bool true) (by simp [results, Try.results48, go_sem]) rfl ⟨rfl, (by (repeat (first | exact Ext.refl _ | refine Ext.trans ?_ (Ext.al _ _) | refine Ext.trans ?_ (Ext.gr _ _))))⟩
set_option maxHeartbeats 2000000 in
set_option maxRecDepth 100000 in
theorem points1_bad0 (B k : Nat) (a0 : Option Addr) (n0 k0 : Nat) (f0 : Bool) (X0 Y0 : Int) (w : World) (q0 : w.cell? ⟨B, 0, none⟩ = some (.slice a0 n0 k0)) (h0 : ∀ w1, Ext w w1 → Calls Try.prog 22 #[.slice a0 n0 k0] w1 fun e w2 => e = .returned (.tuple #[.agg (pc f0 X0 Y0), .bool false]) ∧ Ext w1 w2) : Calls Try.prog 48 #[.slice (some ⟨B, 0, none⟩) 1 k] w fun e w' => e = .returned (.bool false) ∧ Ext w w' := by
  have H0 := Lib.hid h0
  have Q0 := Lib.hid q0
  clear h0 q0
  go_enter Try.func48, Try.ntmps48
  go_wp2_with (fail)
  refine wp_loop_rounds 2 ?_
  iterate 1 (rw [rounds_succ]; go_wp2_with (first | (refine wpList_load_sl rfl _ rfl _ _ rfl _ (cell_ext' (by (repeat (first | exact Ext.refl _ | refine Ext.trans ?_ (Ext.al _ _) | refine Ext.trans ?_ (Ext.gr _ _))) : Ext w _) Q0.out) ?_) | (go_at_call 22; ((with_reducible refine (H0.out _ (by (repeat (exact Ext.refl _)))).mono ?_); rintro e w' ⟨rfl, g0, rfl⟩)) | ((refine wpList_store_rowW rfl 26 _ _ rfl _ _ rfl rfl _ _ (by (with_reducible first | (simp only [hsA, setRow_heap]; rfl) | (repeat (fail)))) (inP _ _ _) (by simp only [ec_size, bc_size, pc_size, tc_size, ec_size, bc_size, pc_size, tc_size]; try rfl) (pc_one _ _ _) ?_; (try simp only [nmA])))))
  refine bodyPost_ret (v := .bool false) (by simp [results, Try.results48, go_sem]) rfl ⟨rfl, (by (repeat (first | exact Ext.refl _ | refine Ext.trans ?_ (Ext.al _ _) | refine Ext.trans ?_ (Ext.gr _ _))))⟩
set_option maxHeartbeats 2000000 in
set_option maxRecDepth 100000 in
theorem points2_good (B k : Nat) (a0 : Option Addr) (n0 k0 : Nat) (f0 : Bool) (X0 Y0 : Int) (a1 : Option Addr) (n1 k1 : Nat) (f1 : Bool) (X1 Y1 : Int) (w : World) (q0 : w.cell? ⟨B, 0, none⟩ = some (.slice a0 n0 k0)) (q1 : w.cell? ⟨B, 1, none⟩ = some (.slice a1 n1 k1)) (h0 : ∀ w1, Ext w w1 → Calls Try.prog 22 #[.slice a0 n0 k0] w1 fun e w2 => e = .returned (.tuple #[.agg (pc f0 X0 Y0), .bool true]) ∧ Ext w1 w2) (h1 : ∀ w1, Ext w w1 → Calls Try.prog 22 #[.slice a1 n1 k1] w1 fun e w2 => e = .returned (.tuple #[.agg (pc f1 X1 Y1), .bool true]) ∧ Ext w1 w2) : Calls Try.prog 48 #[.slice (some ⟨B, 0, none⟩) 2 k] w fun e w' => e = .returned (.bool true) ∧ Ext w w' := by
  have H0 := Lib.hid h0
  have Q0 := Lib.hid q0
  have H1 := Lib.hid h1
  have Q1 := Lib.hid q1
  clear h0 q0 h1 q1
  go_enter Try.func48, Try.ntmps48
  go_wp2_with (fail)
  refine wp_loop_rounds 3 ?_
  iterate 2 (rw [rounds_succ]; go_wp2_with (first | (refine wpList_load_sl rfl _ rfl _ _ rfl _ (cell_ext' (by (repeat (first | exact Ext.refl _ | refine Ext.trans ?_ (Ext.al _ _) | refine Ext.trans ?_ (Ext.gr _ _))) : Ext w _) Q0.out) ?_) | (refine wpList_load_sl rfl _ rfl _ _ rfl _ (cell_ext' (by (repeat (first | exact Ext.refl _ | refine Ext.trans ?_ (Ext.al _ _) | refine Ext.trans ?_ (Ext.gr _ _))) : Ext w _) Q1.out) ?_) | (go_at_call 22; first | ((with_reducible refine (H0.out _ (by (repeat (exact Ext.refl _)))).mono ?_); rintro e w' ⟨rfl, g0, rfl⟩) | ((with_reducible refine (H1.out _ (by (repeat (first | exact Ext.refl _ | refine Ext.trans ?_ (Ext.al _ _) | refine Ext.trans ?_ (Ext.gr _ _))))).mono ?_); rintro e w' ⟨rfl, g1, rfl⟩)) | ((refine wpList_store_rowW rfl 26 _ _ rfl _ _ rfl rfl _ _ (by (with_reducible first | (simp only [hsA, setRow_heap]; rfl) | (repeat (fail)))) (inP _ _ _) (by simp only [ec_size, bc_size, pc_size, tc_size, ec_size, bc_size, pc_size, tc_size]; try rfl) (pc_one _ _ _) ?_; (try simp only [nmA])))))
  rw [rounds_succ]
  go_wp2_with (fail)
  refine bodyPost_ret (v := .bool true) (by simp [results, Try.results48, go_sem]) rfl ⟨rfl, (by (repeat (first | exact Ext.refl _ | refine Ext.trans ?_ (Ext.al _ _) | refine Ext.trans ?_ (Ext.gr _ _))))⟩
set_option maxHeartbeats 2000000 in
set_option maxRecDepth 100000 in
theorem points2_bad0 (B k : Nat) (a0 : Option Addr) (n0 k0 : Nat) (f0 : Bool) (X0 Y0 : Int) (w : World) (q0 : w.cell? ⟨B, 0, none⟩ = some (.slice a0 n0 k0)) (h0 : ∀ w1, Ext w w1 → Calls Try.prog 22 #[.slice a0 n0 k0] w1 fun e w2 => e = .returned (.tuple #[.agg (pc f0 X0 Y0), .bool false]) ∧ Ext w1 w2) : Calls Try.prog 48 #[.slice (some ⟨B, 0, none⟩) 2 k] w fun e w' => e = .returned (.bool false) ∧ Ext w w' := by
  have H0 := Lib.hid h0
  have Q0 := Lib.hid q0
  clear h0 q0
  go_enter Try.func48, Try.ntmps48
  go_wp2_with (fail)
  refine wp_loop_rounds 2 ?_
  iterate 1 (rw [rounds_succ]; go_wp2_with (first | (refine wpList_load_sl rfl _ rfl _ _ rfl _ (cell_ext' (by (repeat (first | exact Ext.refl _ | refine Ext.trans ?_ (Ext.al _ _) | refine Ext.trans ?_ (Ext.gr _ _))) : Ext w _) Q0.out) ?_) | (go_at_call 22; ((with_reducible refine (H0.out _ (by (repeat (exact Ext.refl _)))).mono ?_); rintro e w' ⟨rfl, g0, rfl⟩)) | ((refine wpList_store_rowW rfl 26 _ _ rfl _ _ rfl rfl _ _ (by (with_reducible first | (simp only [hsA, setRow_heap]; rfl) | (repeat (fail)))) (inP _ _ _) (by simp only [ec_size, bc_size, pc_size, tc_size, ec_size, bc_size, pc_size, tc_size]; try rfl) (pc_one _ _ _) ?_; (try simp only [nmA])))))
  refine bodyPost_ret (v := .bool false) (by simp [results, Try.results48, go_sem]) rfl ⟨rfl, (by (repeat (first | exact Ext.refl _ | refine Ext.trans ?_ (Ext.al _ _) | refine Ext.trans ?_ (Ext.gr _ _))))⟩
set_option maxHeartbeats 2000000 in
set_option maxRecDepth 100000 in
theorem points2_bad1 (B k : Nat) (a0 : Option Addr) (n0 k0 : Nat) (f0 : Bool) (X0 Y0 : Int) (a1 : Option Addr) (n1 k1 : Nat) (f1 : Bool) (X1 Y1 : Int) (w : World) (q0 : w.cell? ⟨B, 0, none⟩ = some (.slice a0 n0 k0)) (q1 : w.cell? ⟨B, 1, none⟩ = some (.slice a1 n1 k1)) (h0 : ∀ w1, Ext w w1 → Calls Try.prog 22 #[.slice a0 n0 k0] w1 fun e w2 => e = .returned (.tuple #[.agg (pc f0 X0 Y0), .bool true]) ∧ Ext w1 w2) (h1 : ∀ w1, Ext w w1 → Calls Try.prog 22 #[.slice a1 n1 k1] w1 fun e w2 => e = .returned (.tuple #[.agg (pc f1 X1 Y1), .bool false]) ∧ Ext w1 w2) : Calls Try.prog 48 #[.slice (some ⟨B, 0, none⟩) 2 k] w fun e w' => e = .returned (.bool false) ∧ Ext w w' := by
  have H0 := Lib.hid h0
  have Q0 := Lib.hid q0
  have H1 := Lib.hid h1
  have Q1 := Lib.hid q1
  clear h0 q0 h1 q1
  go_enter Try.func48, Try.ntmps48
  go_wp2_with (fail)
  refine wp_loop_rounds 3 ?_
  iterate 2 (rw [rounds_succ]; go_wp2_with (first | (refine wpList_load_sl rfl _ rfl _ _ rfl _ (cell_ext' (by (repeat (first | exact Ext.refl _ | refine Ext.trans ?_ (Ext.al _ _) | refine Ext.trans ?_ (Ext.gr _ _))) : Ext w _) Q0.out) ?_) | (refine wpList_load_sl rfl _ rfl _ _ rfl _ (cell_ext' (by (repeat (first | exact Ext.refl _ | refine Ext.trans ?_ (Ext.al _ _) | refine Ext.trans ?_ (Ext.gr _ _))) : Ext w _) Q1.out) ?_) | (go_at_call 22; first | ((with_reducible refine (H0.out _ (by (repeat (exact Ext.refl _)))).mono ?_); rintro e w' ⟨rfl, g0, rfl⟩) | ((with_reducible refine (H1.out _ (by (repeat (first | exact Ext.refl _ | refine Ext.trans ?_ (Ext.al _ _) | refine Ext.trans ?_ (Ext.gr _ _))))).mono ?_); rintro e w' ⟨rfl, g1, rfl⟩)) | ((refine wpList_store_rowW rfl 26 _ _ rfl _ _ rfl rfl _ _ (by (with_reducible first | (simp only [hsA, setRow_heap]; rfl) | (repeat (fail)))) (inP _ _ _) (by simp only [ec_size, bc_size, pc_size, tc_size, ec_size, bc_size, pc_size, tc_size]; try rfl) (pc_one _ _ _) ?_; (try simp only [nmA])))))
  refine bodyPost_ret (v := .bool false) (by simp [results, Try.results48, go_sem]) rfl ⟨rfl, (by (repeat (first | exact Ext.refl _ | refine Ext.trans ?_ (Ext.al _ _) | refine Ext.trans ?_ (Ext.gr _ _))))⟩
set_option maxHeartbeats 2000000 in
set_option maxRecDepth 100000 in
theorem points3_good (B k : Nat) (a0 : Option Addr) (n0 k0 : Nat) (f0 : Bool) (X0 Y0 : Int) (a1 : Option Addr) (n1 k1 : Nat) (f1 : Bool) (X1 Y1 : Int) (a2 : Option Addr) (n2 k2 : Nat) (f2 : Bool) (X2 Y2 : Int) (w : World) (q0 : w.cell? ⟨B, 0, none⟩ = some (.slice a0 n0 k0)) (q1 : w.cell? ⟨B, 1, none⟩ = some (.slice a1 n1 k1)) (q2 : w.cell? ⟨B, 2, none⟩ = some (.slice a2 n2 k2)) (h0 : ∀ w1, Ext w w1 → Calls Try.prog 22 #[.slice a0 n0 k0] w1 fun e w2 => e = .returned (.tuple #[.agg (pc f0 X0 Y0), .bool true]) ∧ Ext w1 w2) (h1 : ∀ w1, Ext w w1 → Calls Try.prog 22 #[.slice a1 n1 k1] w1 fun e w2 => e = .returned (.tuple #[.agg (pc f1 X1 Y1), .bool true]) ∧ Ext w1 w2) (h2 : ∀ w1, Ext w w1 → Calls Try.prog 22 #[.slice a2 n2 k2] w1 fun e w2 => e = .returned (.tuple #[.agg (pc f2 X2 Y2), .bool true]) ∧ Ext w1 w2) : Calls Try.prog 48 #[.slice (some ⟨B, 0, none⟩) 3 k] w fun e w' => e = .returned (.bool true) ∧ Ext w w' := by
  have H0 := Lib.hid h0
  have Q0 := Lib.hid q0
  have H1 := Lib.hid h1
  have Q1 := Lib.hid q1
  have H2 := Lib.hid h2
  have Q2 := Lib.hid q2
  clear h0 q0 h1 q1 h2 q2
  go_enter Try.func48, Try.ntmps48
  go_wp2_with (fail)
  refine wp_loop_rounds 4 ?_
  iterate 3 (rw [rounds_succ]; go_wp2_with (first | (refine wpList_load_sl rfl _ rfl _ _ rfl _ (cell_ext' (by (repeat (first | exact Ext.refl _ | refine Ext.trans ?_ (Ext.al _ _) | refine Ext.trans ?_ (Ext.gr _ _))) : Ext w _) Q0.out) ?_) | (refine wpList_load_sl rfl _ rfl _ _ rfl _ (cell_ext' (by (repeat (first | exact Ext.refl _ | refine Ext.trans ?_ (Ext.al _ _) | refine Ext.trans ?_ (Ext.gr _ _))) : Ext w _) Q1.out) ?_) | (refine wpList_load_sl rfl _ rfl _ _ rfl _ (cell_ext' (by (repeat (first | exact Ext.refl _ | refine Ext.trans ?_ (Ext.al _ _) | refine Ext.trans ?_ (Ext.gr _ _))) : Ext w _) Q2.out) ?_) | (go_at_call 22; first | ((with_reducible refine (H0.out _ (by (repeat (exact Ext.refl _)))).mono ?_); rintro e w' ⟨rfl, g0, rfl⟩) | ((with_reducible refine (H1.out _ (by (repeat (first | exact Ext.refl _ | refine Ext.trans ?_ (Ext.al _ _) | refine Ext.trans ?_ (Ext.gr _ _))))).mono ?_); rintro e w' ⟨rfl, g1, rfl⟩) | ((with_reducible refine (H2.out _ (by (repeat (first | exact Ext.refl _ | refine Ext.trans ?_ (Ext.al _ _) | refine Ext.trans ?_ (Ext.gr _ _))))).mono ?_); rintro e w' ⟨rfl, g2, rfl⟩)) | ((refine wpList_store_rowW rfl 26 _ _ rfl _ _ rfl rfl _ _ (by (with_reducible first | (simp only [hsA, setRow_heap]; rfl) | (repeat (fail)))) (inP _ _ _) (by simp only [ec_size, bc_size, pc_size, tc_size, ec_size, bc_size, pc_size, tc_size]; try rfl) (pc_one _ _ _) ?_; (try simp only [nmA])))))
  rw [rounds_succ]
  go_wp2_with (fail)
  refine bodyPost_ret (v := .bool true) (by simp [results, Try.results48, go_sem]) rfl ⟨rfl, (by (repeat (first | exact Ext.refl _ | refine Ext.trans ?_ (Ext.al _ _) | refine Ext.trans ?_ (Ext.gr _ _))))⟩
set_option maxHeartbeats 2000000 in
set_option maxRecDepth 100000 in
theorem points3_bad0 (B k : Nat) (a0 : Option Addr) (n0 k0 : Nat) (f0 : Bool) (X0 Y0 : Int) (w : World) (q0 : w.cell? ⟨B, 0, none⟩ = some (.slice a0 n0 k0)) (h0 : ∀ w1, Ext w w1 → Calls Try.prog 22 #[.slice a0 n0 k0] w1 fun e w2 => e = .returned (.tuple #[.agg (pc f0 X0 Y0), .bool false]) ∧ Ext w1 w2) : Calls Try.prog 48 #[.slice (some ⟨B, 0, none⟩) 3 k] w fun e w' => e = .returned (.bool false) ∧ Ext w w' := by
  have H0 := Lib.hid h0
  have Q0 := Lib.hid q0
  clear h0 q0
  go_enter Try.func48, Try.ntmps48
  go_wp2_with (fail)
  refine wp_loop_rounds 2 ?_
  iterate 1 (rw [rounds_succ]; go_wp2_with (first | (refine wpList_load_sl rfl _ rfl _ _ rfl _ (cell_ext' (by (repeat (first | exact Ext.refl _ | refine Ext.trans ?_ (Ext.al _ _) | refine Ext.trans ?_ (Ext.gr _ _))) : Ext w _) Q0.out) ?_) | (go_at_call 22; ((with_reducible refine (H0.out _ (by (repeat (exact Ext.refl _)))).mono ?_); rintro e w' ⟨rfl, g0, rfl⟩)) | ((refine wpList_store_rowW rfl 26 _ _ rfl _ _ rfl rfl _ _ (by (with_reducible first | (simp only [hsA, setRow_heap]; rfl) | (repeat (fail)))) (inP _ _ _) (by simp only [ec_size, bc_size, pc_size, tc_size, ec_size, bc_size, pc_size, tc_size]; try rfl) (pc_one _ _ _) ?_; (try simp only [nmA])))))
  refine bodyPost_ret (v := .bool false) (by simp [results, Try.results48, go_sem]) rfl ⟨rfl, (by (repeat (first | exact Ext.refl _ | refine Ext.trans ?_ (Ext.al _ _) | refine Ext.trans ?_ (Ext.gr _ _))))⟩
set_option maxHeartbeats 2000000 in
set_option maxRecDepth 100000 in
theorem points3_bad1 (B k : Nat) (a0 : Option Addr) (n0 k0 : Nat) (f0 : Bool) (X0 Y0 : Int) (a1 : Option Addr) (n1 k1 : Nat) (f1 : Bool) (X1 Y1 : Int) (w : World) (q0 : w.cell? ⟨B, 0, none⟩ = some (.slice a0 n0 k0)) (q1 : w.cell? ⟨B, 1, none⟩ = some (.slice a1 n1 k1)) (h0 : ∀ w1, Ext w w1 → Calls Try.prog 22 #[.slice a0 n0 k0] w1 fun e w2 => e = .returned (.tuple #[.agg (pc f0 X0 Y0), .bool true]) ∧ Ext w1 w2) (h1 : ∀ w1, Ext w w1 → Calls Try.prog 22 #[.slice a1 n1 k1] w1 fun e w2 => e = .returned (.tuple #[.agg (pc f1 X1 Y1), .bool false]) ∧ Ext w1 w2) : Calls Try.prog 48 #[.slice (some ⟨B, 0, none⟩) 3 k] w fun e w' => e = .returned (.bool false) ∧ Ext w w' := by
  have H0 := Lib.hid h0
  have Q0 := Lib.hid q0
  have H1 := Lib.hid h1
  have Q1 := Lib.hid q1
  clear h0 q0 h1 q1
  go_enter Try.func48, Try.ntmps48
  go_wp2_with (fail)
  refine wp_loop_rounds 3 ?_
  iterate 2 (rw [rounds_succ]; go_wp2_with (first | (refine wpList_load_sl rfl _ rfl _ _ rfl _ (cell_ext' (by (repeat (first | exact Ext.refl _ | refine Ext.trans ?_ (Ext.al _ _) | refine Ext.trans ?_ (Ext.gr _ _))) : Ext w _) Q0.out) ?_) | (refine wpList_load_sl rfl _ rfl _ _ rfl _ (cell_ext' (by (repeat (first | exact Ext.refl _ | refine Ext.trans ?_ (Ext.al _ _) | refine Ext.trans ?_ (Ext.gr _ _))) : Ext w _) Q1.out) ?_) | (go_at_call 22; first | ((with_reducible refine (H0.out _ (by (repeat (exact Ext.refl _)))).mono ?_); rintro e w' ⟨rfl, g0, rfl⟩) | ((with_reducible refine (H1.out _ (by (repeat (first | exact Ext.refl _ | refine Ext.trans ?_ (Ext.al _ _) | refine Ext.trans ?_ (Ext.gr _ _))))).mono ?_); rintro e w' ⟨rfl, g1, rfl⟩)) | ((refine wpList_store_rowW rfl 26 _ _ rfl _ _ rfl rfl _ _ (by (with_reducible first | (simp only [hsA, setRow_heap]; rfl) | (repeat (fail)))) (inP _ _ _) (by simp only [ec_size, bc_size, pc_size, tc_size, ec_size, bc_size, pc_size, tc_size]; try rfl) (pc_one _ _ _) ?_; (try simp only [nmA])))))
  refine bodyPost_ret (v := .bool false) (by simp [results, Try.results48, go_sem]) rfl ⟨rfl, (by (repeat (first | exact Ext.refl _ | refine Ext.trans ?_ (Ext.al _ _) | refine Ext.trans ?_ (Ext.gr _ _))))⟩
set_option maxHeartbeats 2000000 in
set_option maxRecDepth 100000 in
theorem points3_bad2 (B k : Nat) (a0 : Option Addr) (n0 k0 : Nat) (f0 : Bool) (X0 Y0 : Int) (a1 : Option Addr) (n1 k1 : Nat) (f1 : Bool) (X1 Y1 : Int) (a2 : Option Addr) (n2 k2 : Nat) (f2 : Bool) (X2 Y2 : Int) (w : World) (q0 : w.cell? ⟨B, 0, none⟩ = some (.slice a0 n0 k0)) (q1 : w.cell? ⟨B, 1, none⟩ = some (.slice a1 n1 k1)) (q2 : w.cell? ⟨B, 2, none⟩ = some (.slice a2 n2 k2)) (h0 : ∀ w1, Ext w w1 → Calls Try.prog 22 #[.slice a0 n0 k0] w1 fun e w2 => e = .returned (.tuple #[.agg (pc f0 X0 Y0), .bool true]) ∧ Ext w1 w2) (h1 : ∀ w1, Ext w w1 → Calls Try.prog 22 #[.slice a1 n1 k1] w1 fun e w2 => e = .returned (.tuple #[.agg (pc f1 X1 Y1), .bool true]) ∧ Ext w1 w2) (h2 : ∀ w1, Ext w w1 → Calls Try.prog 22 #[.slice a2 n2 k2] w1 fun e w2 => e = .returned (.tuple #[.agg (pc f2 X2 Y2), .bool false]) ∧ Ext w1 w2) : Calls Try.prog 48 #[.slice (some ⟨B, 0, none⟩) 3 k] w fun e w' => e = .returned (.bool false) ∧ Ext w w' := by
  have H0 := Lib.hid h0
  have Q0 := Lib.hid q0
  have H1 := Lib.hid h1
  have Q1 := Lib.hid q1
  have H2 := Lib.hid h2
  have Q2 := Lib.hid q2
  clear h0 q0 h1 q1 h2 q2
  go_enter Try.func48, Try.ntmps48
  go_wp2_with (fail)
  refine wp_loop_rounds 4 ?_
  iterate 3 (rw [rounds_succ]; go_wp2_with (first | (refine wpList_load_sl rfl _ rfl _ _ rfl _ (cell_ext' (by (repeat (first | exact Ext.refl _ | refine Ext.trans ?_ (Ext.al _ _) | refine Ext.trans ?_ (Ext.gr _ _))) : Ext w _) Q0.out) ?_) | (refine wpList_load_sl rfl _ rfl _ _ rfl _ (cell_ext' (by (repeat (first | exact Ext.refl _ | refine Ext.trans ?_ (Ext.al _ _) | refine Ext.trans ?_ (Ext.gr _ _))) : Ext w _) Q1.out) ?_) | (refine wpList_load_sl rfl _ rfl _ _ rfl _ (cell_ext' (by (repeat (first | exact Ext.refl _ | refine Ext.trans ?_ (Ext.al _ _) | refine Ext.trans ?_ (Ext.gr _ _))) : Ext w _) Q2.out) ?_) | (go_at_call 22; first | ((with_reducible refine (H0.out _ (by (repeat (exact Ext.refl _)))).mono ?_); rintro e w' ⟨rfl, g0, rfl⟩) | ((with_reducible refine (H1.out _ (by (repeat (first | exact Ext.refl _ | refine Ext.trans ?_ (Ext.al _ _) | refine Ext.trans ?_ (Ext.gr _ _))))).mono ?_); rintro e w' ⟨rfl, g1, rfl⟩) | ((with_reducible refine (H2.out _ (by (repeat (first | exact Ext.refl _ | refine Ext.trans ?_ (Ext.al _ _) | refine Ext.trans ?_ (Ext.gr _ _))))).mono ?_); rintro e w' ⟨rfl, g2, rfl⟩)) | ((refine wpList_store_rowW rfl 26 _ _ rfl _ _ rfl rfl _ _ (by (with_reducible first | (simp only [hsA, setRow_heap]; rfl) | (repeat (fail)))) (inP _ _ _) (by simp only [ec_size, bc_size, pc_size, tc_size, ec_size, bc_size, pc_size, tc_size]; try rfl) (pc_one _ _ _) ?_; (try simp only [nmA])))))
  refine bodyPost_ret (v := .bool false) (by simp [results, Try.results48, go_sem]) rfl ⟨rfl, (by (repeat (first | exact Ext.refl _ | refine Ext.trans ?_ (Ext.al _ _) | refine Ext.trans ?_ (Ext.gr _ _))))⟩
set_option maxHeartbeats 2000000 in
set_option maxRecDepth 100000 in
theorem alike_any (g g2 k k2 : Nat) (P : Pt) (w : World) (h : Told w g P) (h2 : Told w g2 P) (hk : 65 ≤ k) : Calls Try.prog 49 #[.slice (some ⟨g, 0, none⟩) (wrL P).length k, .slice (some ⟨g2, 0, none⟩) (wrL P).length k2] w fun e w' => e = .returned (.bool true) ∧ Ext w w' := by
  obtain ⟨f, X, Y, hpv⟩ := pv_row P
  have hR := (h.gd k (Nat.le_trans (wrL_most P) hk)).read
  rw [hpv] at hR
  have HR := Lib.hid hR
  have HS := Lib.hid (fun w' (hE : Ext w w') => same_self g k g2 k2 (wrL P) w' (hE.held h.1 h.2.1) (wrL_bd P) (hE.held h2.1 h2.2.1))
  clear hR h h2 hk hpv
  generalize (wrL P).length = n at *
  go_enter Try.func49, Try.ntmps49
  go_wp2_with (first | (go_at_call 25; (with_reducible refine (HS.out _ (by (repeat (exact Ext.refl _)))).mono ?_); rintro e w' ⟨rfl, g1, rfl⟩) | (go_at_call 48; (with_reducible refine (points1_good _ _ (some ⟨g, 0, none⟩) n k f X Y _ (by go_simp) (fun w1 hE => HR.out w1 (Ext.trans (by (repeat (first | exact Ext.refl _ | refine Ext.trans ?_ (Ext.al _ _) | refine Ext.trans ?_ (Ext.gr _ _)))) hE))).mono ?_); rintro e w' ⟨rfl, g2, rfl⟩))
  refine bodyPost_ret (v := .bool true) (by simp [results, Try.results49, go_sem]) rfl ⟨rfl, (by (repeat (first | exact Ext.refl _ | refine Ext.trans ?_ (Ext.al _ _) | refine Ext.trans ?_ (Ext.gr _ _))))⟩
end Go.Proofs.Ytmepgkcijeobkaa
