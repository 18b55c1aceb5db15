/-
  What FnCoordinates says: whether two numbers below the prime are the coordinates of a point.
  Conditions: none.
-/
import Derived.Test.YtbdmicmohopmaaaRows
import Derived.Test.YtbdmicmohopmaaaEle
import Derived.Test.YtbdmicmohopmaaaElo
import Derived.Test.YtbdmicmohopmaaaSpecISpecJ
import Derived.Test.YtbdmicmohopmaaaLawPLawQ
import Derived.Test.YtbdmicmohopmaaaArrEq
import Derived.WalkKit
import Derived.WalkSpells
import Derived.Outline
import Derived.ProofKit
import Derived.OpenShut
namespace Go.Proofs.Ytbdmicmohopmaaa.fnCoordinates
open Go Go.ChangeShapes Go.WideShapes Go.ChangeAt Go.RowKit Ecp
set_option linter.unusedSimpArgs false
set_option linter.unusedVariables false

set_option maxHeartbeats 4000000 in
set_option maxRecDepth 100000 in
theorem on_true (X Y : Int) (hE1 : ∀ w, Calls Try.prog 11 #[.agg (bc X)] w fun e w' => e = .returned (.tuple #[.agg (ec X), .bool true]) ∧ Ext w w') (hE2 : ∀ w, Calls Try.prog 11 #[.agg (bc Y)] w fun e w' => e = .returned (.tuple #[.agg (ec Y), .bool true]) ∧ Ext w w') (hC : ∀ w, Calls Try.prog 31 #[.agg (bc X), .agg (bc Y)] w fun e w' => e = .returned (.tuple #[.bool true, .bool true]) ∧ Ext w w') (hO : ∀ w, Calls Try.prog 23 #[.agg (ec X), .agg (ec Y)] w fun e w' => e = .returned (.bool true) ∧ Ext w w') (w : World) : Calls Try.prog 8 #[.agg (bc X), .agg (bc Y)] w fun e w' => e = .returned (.bool true) ∧ Below w.heap.size w w' := by
  have HE1 := Lib.hid hE1
  have HE2 := Lib.hid hE2
  have HC := Lib.hid hC
  have HON := Lib.hid hO
  clear hE1 hE2 hC hO
  go_enter Try.func8, Try.ntmps8
  go_wp2_with (first | (refine wpList_alloc_row rfl 22 _ rfl zeroB ?_) | (first | (refine wpList_load_rowW rfl 22 _ rfl _ rfl _ _ _ _ (by (with_reducible first | assumption | (simp only [hsA, setRow_heap]; first | done | rfl) | (repeat (first | assumption | (refine heap_at _ _ _ ?_; simp only [hsA, setRow_heap]; done) | refine ext_row (Ext.al _ _) ?_ | refine ext_row (Ext.gr _ _) ?_ | refine ext_row (by assumption) ?_)))) Try.underlying22 rfl (inB _) ?_) | (refine wpList_load_partW rfl 22 _ rfl _ _ rfl _ _ _ (by (with_reducible first | assumption | (simp only [hsA, setRow_heap]; first | done | rfl) | (repeat (first | assumption | (refine heap_at _ _ _ ?_; simp only [hsA, setRow_heap]; done) | refine ext_row (Ext.al _ _) ?_ | refine ext_row (Ext.gr _ _) ?_ | refine ext_row (by assumption) ?_)))) _ (by first | with_reducible exact pc_x _ _ _ | with_reducible exact pc_y _ _ _ | with_reducible exact tc_x _ _ _ | with_reducible exact tc_y _ _ _ | with_reducible exact tc_z _ _ _) _ Try.underlying22 rfl (inB _) ?_) | (refine wpList_store_rowW rfl 22 _ _ rfl _ _ rfl rfl _ _ (by (with_reducible first | assumption | (simp only [hsA, setRow_heap]; first | done | rfl) | (repeat (first | assumption | (refine heap_at _ _ _ ?_; simp only [hsA, setRow_heap]; done) | refine ext_row (Ext.al _ _) ?_ | refine ext_row (Ext.gr _ _) ?_ | refine ext_row (by assumption) ?_)))) (inB _) (by simp only [ec_size, bc_size, pc_size, tc_size, ec_size, bc_size, pc_size, tc_size]; try rfl) (bc_one _) ?_; (try simp only [nmA])) | (refine wpList_load_rowW rfl 24 _ rfl _ rfl _ _ _ _ (by (with_reducible first | assumption | (simp only [hsA, setRow_heap]; first | done | rfl) | (repeat (first | assumption | (refine heap_at _ _ _ ?_; simp only [hsA, setRow_heap]; done) | refine ext_row (Ext.al _ _) ?_ | refine ext_row (Ext.gr _ _) ?_ | refine ext_row (by assumption) ?_)))) Try.underlying24 rfl (inE _) ?_) | (refine wpList_load_partW rfl 24 _ rfl _ _ rfl _ _ _ (by (with_reducible first | assumption | (simp only [hsA, setRow_heap]; first | done | rfl) | (repeat (first | assumption | (refine heap_at _ _ _ ?_; simp only [hsA, setRow_heap]; done) | refine ext_row (Ext.al _ _) ?_ | refine ext_row (Ext.gr _ _) ?_ | refine ext_row (by assumption) ?_)))) _ (by first | with_reducible exact pc_x _ _ _ | with_reducible exact pc_y _ _ _ | with_reducible exact tc_x _ _ _ | with_reducible exact tc_y _ _ _ | with_reducible exact tc_z _ _ _) _ Try.underlying24 rfl (inE _) ?_) | (refine wpList_store_rowW rfl 24 _ _ rfl _ _ rfl rfl _ _ (by (with_reducible first | assumption | (simp only [hsA, setRow_heap]; first | done | rfl) | (repeat (first | assumption | (refine heap_at _ _ _ ?_; simp only [hsA, setRow_heap]; done) | refine ext_row (Ext.al _ _) ?_ | refine ext_row (Ext.gr _ _) ?_ | refine ext_row (by assumption) ?_)))) (inE _) (by simp only [ec_size, bc_size, pc_size, tc_size, ec_size, bc_size, pc_size, tc_size]; try rfl) (ec_one _) ?_; (try simp only [nmA])) | (go_at_call 11; first | ((with_reducible refine (HE1.out _).mono ?_); rintro e w' ⟨rfl, g1, rfl⟩) | ((with_reducible refine (HE2.out _).mono ?_); rintro e w' ⟨rfl, g2, rfl⟩)) | (go_at_call 31; go_must (with_reducible refine (HC.out _).mono ?_); rintro e w' ⟨rfl, g3, rfl⟩) | (go_at_call 23; go_must (with_reducible refine (HON.out _).mono ?_); rintro e w' ⟨rfl, g4, rfl⟩)))
  refine bodyPost_ret (v := .bool true) (by simp [results, Try.results8, go_sem]) rfl ⟨rfl, Ext.below (by (repeat (first | exact Ext.refl _ | assumption | exact hE6 .. | refine Ext.trans ?_ (Ext.al _ _) | refine Ext.trans ?_ (Ext.gr _ _) | refine Ext.trans ?_ (by with_reducible assumption) | refine Ext.setRow ?_ (by first | omega | (simp <;> omega)) _)))⟩
set_option maxHeartbeats 4000000 in
set_option maxRecDepth 100000 in
theorem on_false (X Y : Int) (hE1 : ∀ w, Calls Try.prog 11 #[.agg (bc X)] w fun e w' => e = .returned (.tuple #[.agg (ec X), .bool true]) ∧ Ext w w') (hE2 : ∀ w, Calls Try.prog 11 #[.agg (bc Y)] w fun e w' => e = .returned (.tuple #[.agg (ec Y), .bool true]) ∧ Ext w w') (hC : ∀ w, Calls Try.prog 31 #[.agg (bc X), .agg (bc Y)] w fun e w' => e = .returned (.tuple #[.bool false, .bool true]) ∧ Ext w w') (hO : ∀ w, Calls Try.prog 23 #[.agg (ec X), .agg (ec Y)] w fun e w' => e = .returned (.bool false) ∧ Ext w w') (w : World) : Calls Try.prog 8 #[.agg (bc X), .agg (bc Y)] w fun e w' => e = .returned (.bool true) ∧ Below w.heap.size w w' := by
  have HE1 := Lib.hid hE1
  have HE2 := Lib.hid hE2
  have HC := Lib.hid hC
  have HON := Lib.hid hO
  clear hE1 hE2 hC hO
  go_enter Try.func8, Try.ntmps8
  go_wp2_with (first | (refine wpList_alloc_row rfl 22 _ rfl zeroB ?_) | (first | (refine wpList_load_rowW rfl 22 _ rfl _ rfl _ _ _ _ (by (with_reducible first | assumption | (simp only [hsA, setRow_heap]; first | done | rfl) | (repeat (first | assumption | (refine heap_at _ _ _ ?_; simp only [hsA, setRow_heap]; done) | refine ext_row (Ext.al _ _) ?_ | refine ext_row (Ext.gr _ _) ?_ | refine ext_row (by assumption) ?_)))) Try.underlying22 rfl (inB _) ?_) | (refine wpList_load_partW rfl 22 _ rfl _ _ rfl _ _ _ (by (with_reducible first | assumption | (simp only [hsA, setRow_heap]; first | done | rfl) | (repeat (first | assumption | (refine heap_at _ _ _ ?_; simp only [hsA, setRow_heap]; done) | refine ext_row (Ext.al _ _) ?_ | refine ext_row (Ext.gr _ _) ?_ | refine ext_row (by assumption) ?_)))) _ (by first | with_reducible exact pc_x _ _ _ | with_reducible exact pc_y _ _ _ | with_reducible exact tc_x _ _ _ | with_reducible exact tc_y _ _ _ | with_reducible exact tc_z _ _ _) _ Try.underlying22 rfl (inB _) ?_) | (refine wpList_store_rowW rfl 22 _ _ rfl _ _ rfl rfl _ _ (by (with_reducible first | assumption | (simp only [hsA, setRow_heap]; first | done | rfl) | (repeat (first | assumption | (refine heap_at _ _ _ ?_; simp only [hsA, setRow_heap]; done) | refine ext_row (Ext.al _ _) ?_ | refine ext_row (Ext.gr _ _) ?_ | refine ext_row (by assumption) ?_)))) (inB _) (by simp only [ec_size, bc_size, pc_size, tc_size, ec_size, bc_size, pc_size, tc_size]; try rfl) (bc_one _) ?_; (try simp only [nmA])) | (refine wpList_load_rowW rfl 24 _ rfl _ rfl _ _ _ _ (by (with_reducible first | assumption | (simp only [hsA, setRow_heap]; first | done | rfl) | (repeat (first | assumption | (refine heap_at _ _ _ ?_; simp only [hsA, setRow_heap]; done) | refine ext_row (Ext.al _ _) ?_ | refine ext_row (Ext.gr _ _) ?_ | refine ext_row (by assumption) ?_)))) Try.underlying24 rfl (inE _) ?_) | (refine wpList_load_partW rfl 24 _ rfl _ _ rfl _ _ _ (by (with_reducible first | assumption | (simp only [hsA, setRow_heap]; first | done | rfl) | (repeat (first | assumption | (refine heap_at _ _ _ ?_; simp only [hsA, setRow_heap]; done) | refine ext_row (Ext.al _ _) ?_ | refine ext_row (Ext.gr _ _) ?_ | refine ext_row (by assumption) ?_)))) _ (by first | with_reducible exact pc_x _ _ _ | with_reducible exact pc_y _ _ _ | with_reducible exact tc_x _ _ _ | with_reducible exact tc_y _ _ _ | with_reducible exact tc_z _ _ _) _ Try.underlying24 rfl (inE _) ?_) | (refine wpList_store_rowW rfl 24 _ _ rfl _ _ rfl rfl _ _ (by (with_reducible first | assumption | (simp only [hsA, setRow_heap]; first | done | rfl) | (repeat (first | assumption | (refine heap_at _ _ _ ?_; simp only [hsA, setRow_heap]; done) | refine ext_row (Ext.al _ _) ?_ | refine ext_row (Ext.gr _ _) ?_ | refine ext_row (by assumption) ?_)))) (inE _) (by simp only [ec_size, bc_size, pc_size, tc_size, ec_size, bc_size, pc_size, tc_size]; try rfl) (ec_one _) ?_; (try simp only [nmA])) | (go_at_call 11; first | ((with_reducible refine (HE1.out _).mono ?_); rintro e w' ⟨rfl, g1, rfl⟩) | ((with_reducible refine (HE2.out _).mono ?_); rintro e w' ⟨rfl, g2, rfl⟩)) | (go_at_call 31; go_must (with_reducible refine (HC.out _).mono ?_); rintro e w' ⟨rfl, g3, rfl⟩) | (go_at_call 23; go_must (with_reducible refine (HON.out _).mono ?_); rintro e w' ⟨rfl, g4, rfl⟩)))
  refine bodyPost_ret (v := .bool true) (by simp [results, Try.results8, go_sem]) rfl ⟨rfl, Ext.below (by (repeat (first | exact Ext.refl _ | assumption | exact hE6 .. | refine Ext.trans ?_ (Ext.al _ _) | refine Ext.trans ?_ (Ext.gr _ _) | refine Ext.trans ?_ (by with_reducible assumption) | refine Ext.setRow ?_ (by first | omega | (simp <;> omega)) _)))⟩
set_option maxHeartbeats 4000000 in
set_option maxRecDepth 100000 in
theorem bad1 (X Y : Int) (o : Bool) (hE1 : ∀ w, Calls Try.prog 11 #[.agg (bc X)] w fun e w' => e = .returned (.tuple #[.agg (ec X), .bool false]) ∧ Ext w w') (hE2 : ∀ w, Calls Try.prog 11 #[.agg (bc Y)] w fun e w' => e = .returned (.tuple #[.agg (ec Y), .bool o]) ∧ Ext w w') (hC : ∀ w, Calls Try.prog 31 #[.agg (bc X), .agg (bc Y)] w fun e w' => e = .returned (.tuple #[.bool false, .bool false]) ∧ Ext w w') (w : World) : Calls Try.prog 8 #[.agg (bc X), .agg (bc Y)] w fun e w' => e = .returned (.bool true) ∧ Below w.heap.size w w' := by
  have HE1 := Lib.hid hE1
  have HE2 := Lib.hid hE2
  have HC := Lib.hid hC
  clear hE1 hE2 hC
  go_enter Try.func8, Try.ntmps8
  go_wp2_with (first | (refine wpList_alloc_row rfl 22 _ rfl zeroB ?_) | (first | (refine wpList_load_rowW rfl 22 _ rfl _ rfl _ _ _ _ (by (with_reducible first | assumption | (simp only [hsA, setRow_heap]; first | done | rfl) | (repeat (first | assumption | (refine heap_at _ _ _ ?_; simp only [hsA, setRow_heap]; done) | refine ext_row (Ext.al _ _) ?_ | refine ext_row (Ext.gr _ _) ?_ | refine ext_row (by assumption) ?_)))) Try.underlying22 rfl (inB _) ?_) | (refine wpList_load_partW rfl 22 _ rfl _ _ rfl _ _ _ (by (with_reducible first | assumption | (simp only [hsA, setRow_heap]; first | done | rfl) | (repeat (first | assumption | (refine heap_at _ _ _ ?_; simp only [hsA, setRow_heap]; done) | refine ext_row (Ext.al _ _) ?_ | refine ext_row (Ext.gr _ _) ?_ | refine ext_row (by assumption) ?_)))) _ (by first | with_reducible exact pc_x _ _ _ | with_reducible exact pc_y _ _ _ | with_reducible exact tc_x _ _ _ | with_reducible exact tc_y _ _ _ | with_reducible exact tc_z _ _ _) _ Try.underlying22 rfl (inB _) ?_) | (refine wpList_store_rowW rfl 22 _ _ rfl _ _ rfl rfl _ _ (by (with_reducible first | assumption | (simp only [hsA, setRow_heap]; first | done | rfl) | (repeat (first | assumption | (refine heap_at _ _ _ ?_; simp only [hsA, setRow_heap]; done) | refine ext_row (Ext.al _ _) ?_ | refine ext_row (Ext.gr _ _) ?_ | refine ext_row (by assumption) ?_)))) (inB _) (by simp only [ec_size, bc_size, pc_size, tc_size, ec_size, bc_size, pc_size, tc_size]; try rfl) (bc_one _) ?_; (try simp only [nmA])) | (refine wpList_load_rowW rfl 24 _ rfl _ rfl _ _ _ _ (by (with_reducible first | assumption | (simp only [hsA, setRow_heap]; first | done | rfl) | (repeat (first | assumption | (refine heap_at _ _ _ ?_; simp only [hsA, setRow_heap]; done) | refine ext_row (Ext.al _ _) ?_ | refine ext_row (Ext.gr _ _) ?_ | refine ext_row (by assumption) ?_)))) Try.underlying24 rfl (inE _) ?_) | (refine wpList_load_partW rfl 24 _ rfl _ _ rfl _ _ _ (by (with_reducible first | assumption | (simp only [hsA, setRow_heap]; first | done | rfl) | (repeat (first | assumption | (refine heap_at _ _ _ ?_; simp only [hsA, setRow_heap]; done) | refine ext_row (Ext.al _ _) ?_ | refine ext_row (Ext.gr _ _) ?_ | refine ext_row (by assumption) ?_)))) _ (by first | with_reducible exact pc_x _ _ _ | with_reducible exact pc_y _ _ _ | with_reducible exact tc_x _ _ _ | with_reducible exact tc_y _ _ _ | with_reducible exact tc_z _ _ _) _ Try.underlying24 rfl (inE _) ?_) | (refine wpList_store_rowW rfl 24 _ _ rfl _ _ rfl rfl _ _ (by (with_reducible first | assumption | (simp only [hsA, setRow_heap]; first | done | rfl) | (repeat (first | assumption | (refine heap_at _ _ _ ?_; simp only [hsA, setRow_heap]; done) | refine ext_row (Ext.al _ _) ?_ | refine ext_row (Ext.gr _ _) ?_ | refine ext_row (by assumption) ?_)))) (inE _) (by simp only [ec_size, bc_size, pc_size, tc_size, ec_size, bc_size, pc_size, tc_size]; try rfl) (ec_one _) ?_; (try simp only [nmA])) | (go_at_call 11; first | ((with_reducible refine (HE1.out _).mono ?_); rintro e w' ⟨rfl, g1, rfl⟩) | ((with_reducible refine (HE2.out _).mono ?_); rintro e w' ⟨rfl, g2, rfl⟩)) | (go_at_call 31; go_must (with_reducible refine (HC.out _).mono ?_); rintro e w' ⟨rfl, g3, rfl⟩)))
  refine bodyPost_ret (v := .bool true) (by simp [results, Try.results8, go_sem]) rfl ⟨rfl, Ext.below (by (repeat (first | exact Ext.refl _ | assumption | exact hE6 .. | refine Ext.trans ?_ (Ext.al _ _) | refine Ext.trans ?_ (Ext.gr _ _) | refine Ext.trans ?_ (by with_reducible assumption) | refine Ext.setRow ?_ (by first | omega | (simp <;> omega)) _)))⟩
set_option maxHeartbeats 4000000 in
set_option maxRecDepth 100000 in
theorem bad2 (X Y : Int) (hE1 : ∀ w, Calls Try.prog 11 #[.agg (bc X)] w fun e w' => e = .returned (.tuple #[.agg (ec X), .bool true]) ∧ Ext w w') (hE2 : ∀ w, Calls Try.prog 11 #[.agg (bc Y)] w fun e w' => e = .returned (.tuple #[.agg (ec Y), .bool false]) ∧ Ext w w') (hC : ∀ w, Calls Try.prog 31 #[.agg (bc X), .agg (bc Y)] w fun e w' => e = .returned (.tuple #[.bool false, .bool false]) ∧ Ext w w') (w : World) : Calls Try.prog 8 #[.agg (bc X), .agg (bc Y)] w fun e w' => e = .returned (.bool true) ∧ Below w.heap.size w w' := by
  have HE1 := Lib.hid hE1
  have HE2 := Lib.hid hE2
  have HC := Lib.hid hC
  clear hE1 hE2 hC
  go_enter Try.func8, Try.ntmps8
  go_wp2_with (first | (refine wpList_alloc_row rfl 22 _ rfl zeroB ?_) | (first | (refine wpList_load_rowW rfl 22 _ rfl _ rfl _ _ _ _ (by (with_reducible first | assumption | (simp only [hsA, setRow_heap]; first | done | rfl) | (repeat (first | assumption | (refine heap_at _ _ _ ?_; simp only [hsA, setRow_heap]; done) | refine ext_row (Ext.al _ _) ?_ | refine ext_row (Ext.gr _ _) ?_ | refine ext_row (by assumption) ?_)))) Try.underlying22 rfl (inB _) ?_) | (refine wpList_load_partW rfl 22 _ rfl _ _ rfl _ _ _ (by (with_reducible first | assumption | (simp only [hsA, setRow_heap]; first | done | rfl) | (repeat (first | assumption | (refine heap_at _ _ _ ?_; simp only [hsA, setRow_heap]; done) | refine ext_row (Ext.al _ _) ?_ | refine ext_row (Ext.gr _ _) ?_ | refine ext_row (by assumption) ?_)))) _ (by first | with_reducible exact pc_x _ _ _ | with_reducible exact pc_y _ _ _ | with_reducible exact tc_x _ _ _ | with_reducible exact tc_y _ _ _ | with_reducible exact tc_z _ _ _) _ Try.underlying22 rfl (inB _) ?_) | (refine wpList_store_rowW rfl 22 _ _ rfl _ _ rfl rfl _ _ (by (with_reducible first | assumption | (simp only [hsA, setRow_heap]; first | done | rfl) | (repeat (first | assumption | (refine heap_at _ _ _ ?_; simp only [hsA, setRow_heap]; done) | refine ext_row (Ext.al _ _) ?_ | refine ext_row (Ext.gr _ _) ?_ | refine ext_row (by assumption) ?_)))) (inB _) (by simp only [ec_size, bc_size, pc_size, tc_size, ec_size, bc_size, pc_size, tc_size]; try rfl) (bc_one _) ?_; (try simp only [nmA])) | (refine wpList_load_rowW rfl 24 _ rfl _ rfl _ _ _ _ (by (with_reducible first | assumption | (simp only [hsA, setRow_heap]; first | done | rfl) | (repeat (first | assumption | (refine heap_at _ _ _ ?_; simp only [hsA, setRow_heap]; done) | refine ext_row (Ext.al _ _) ?_ | refine ext_row (Ext.gr _ _) ?_ | refine ext_row (by assumption) ?_)))) Try.underlying24 rfl (inE _) ?_) | (refine wpList_load_partW rfl 24 _ rfl _ _ rfl _ _ _ (by (with_reducible first | assumption | (simp only [hsA, setRow_heap]; first | done | rfl) | (repeat (first | assumption | (refine heap_at _ _ _ ?_; simp only [hsA, setRow_heap]; done) | refine ext_row (Ext.al _ _) ?_ | refine ext_row (Ext.gr _ _) ?_ | refine ext_row (by assumption) ?_)))) _ (by first | with_reducible exact pc_x _ _ _ | with_reducible exact pc_y _ _ _ | with_reducible exact tc_x _ _ _ | with_reducible exact tc_y _ _ _ | with_reducible exact tc_z _ _ _) _ Try.underlying24 rfl (inE _) ?_) | (refine wpList_store_rowW rfl 24 _ _ rfl _ _ rfl rfl _ _ (by (with_reducible first | assumption | (simp only [hsA, setRow_heap]; first | done | rfl) | (repeat (first | assumption | (refine heap_at _ _ _ ?_; simp only [hsA, setRow_heap]; done) | refine ext_row (Ext.al _ _) ?_ | refine ext_row (Ext.gr _ _) ?_ | refine ext_row (by assumption) ?_)))) (inE _) (by simp only [ec_size, bc_size, pc_size, tc_size, ec_size, bc_size, pc_size, tc_size]; try rfl) (ec_one _) ?_; (try simp only [nmA])) | (go_at_call 11; first | ((with_reducible refine (HE1.out _).mono ?_); rintro e w' ⟨rfl, g1, rfl⟩) | ((with_reducible refine (HE2.out _).mono ?_); rintro e w' ⟨rfl, g2, rfl⟩)) | (go_at_call 31; go_must (with_reducible refine (HC.out _).mono ?_); rintro e w' ⟨rfl, g3, rfl⟩)))
  refine bodyPost_ret (v := .bool true) (by simp [results, Try.results8, go_sem]) rfl ⟨rfl, Ext.below (by (repeat (first | exact Ext.refl _ | assumption | exact hE6 .. | refine Ext.trans ?_ (Ext.al _ _) | refine Ext.trans ?_ (Ext.gr _ _) | refine Ext.trans ?_ (by with_reducible assumption) | refine Ext.setRow ?_ (by first | omega | (simp <;> omega)) _)))⟩
theorem el (X : Int) (h0 : 0 ≤ X) (h1 : X < R256) (o : Bool) (ho : decide (X < pI) = o) : (∀ w, Calls Try.prog 11 #[.agg (bc X)] w fun e w' => e = .returned (.tuple #[.agg (ec X), .bool o]) ∧ Ext w w') ∧ ∀ w, Calls Try.prog 35 #[.agg (bc X)] w fun e w' => ∃ p, e = .returned (.tuple #[.pointer p, .bool o]) ∧ Ext w w' :=
  ⟨fun w => by rw [← ho]; exact lawElement_any X h0 h1 w, fun w => by rw [← ho]; exact element_any X h0 h1 w⟩
theorem walk (l1 : List Int) (hl1 : l1.length = 32) (hw1 : ∀ x ∈ l1, (Lit.int .u8 x).wf = true) (l2 : List Int) (hl2 : l2.length = 32) (hw2 : ∀ x ∈ l2, (Lit.int .u8 x).wf = true) (w : World) :
    Calls Try.prog 8 #[.agg (l1.map (Value.int .u8)).toArray, .agg (l2.map (Value.int .u8)).toArray] w fun e w' => e = .returned (.bool true) ∧ Below w.heap.size w w' := by
  have hb1 : ∀ x ∈ l1, 0 ≤ x ∧ x < 256 := fun x hx => by
    have := bounds_u8 (hw1 x hx)
    omega
  have hX := be_bd l1 hl1 hb1
  rw [← bc_be l1 hl1 hb1]
  generalize be l1 = X at hX ⊢
  have hb2 : ∀ x ∈ l2, 0 ≤ x ∧ x < 256 := fun x hx => by
    have := bounds_u8 (hw2 x hx)
    omega
  have hY := be_bd l2 hl2 hb2
  rw [← bc_be l2 hl2 hb2]
  generalize be l2 = Y at hY ⊢
  by_cases hp : X < pI
  · have e1 := el X hX.1 hX.2 true (decide_eq_true hp)
    by_cases hq : Y < pI
    · have e2 := el Y hY.1 hY.2 true (decide_eq_true hq)
      obtain ⟨x, rfl⟩ := fp_of hX.1 hp
      obtain ⟨y, rfl⟩ := fp_of hY.1 hq
      by_cases ho : Onc x y
      · exact on_true _ _ e1.1 e2.1 (OnCurve_on x y ho) (fun w => by have h := On_row x y w; rw [decide_eq_true ho] at h; exact h) w
      · exact on_false _ _ e1.1 e2.1 (OnCurve_off x y ho) (fun w => by have h := On_row x y w; rw [decide_eq_false ho] at h; exact h) w
    · have e2 := el Y hY.1 hY.2 false (decide_eq_false hq)
      exact bad2 X Y e1.1 e2.1 (OnCurve_bad2 X Y e1.2 e2.2) w
  · have e1 := el X hX.1 hX.2 false (decide_eq_false hp)
    have e2 := el Y hY.1 hY.2 (decide (Y < pI)) rfl
    exact bad1 X Y _ e1.1 e2.1 (OnCurve_bad1 X Y _ e1.2 e2.2) w

theorem own : ownKnob Try.prog.godebug = none := by kernel_rfl
theorem laidOut : laidOutB Try.prog = true := by kernel_rfl

set_option maxRecDepth 100000 in
theorem lifted (os : Os) (started : os.Started) (H : Type) (enc : TypeId × Value → H) :
    ReturnsInHanded {} Try.checked os 8 .any (Rows.fnCoordinatesSpec.pre6 enc Try.prog Try.f8 Rows.fnCoordinatesRow.domain false) (Rows.fnCoordinatesSpec.post enc Try.prog Try.f8 false true false false) := by
  refine returnsInHanded_of_change (C := Try.checked) own started (by kernel_rfl) Try.func8
    (ChangeSpec.witness6 (enc := enc) (C := Try.checked) false ⟨#[], #[.agg #[.int .u8 0, .int .u8 0, .int .u8 0, .int .u8 0, .int .u8 0, .int .u8 0, .int .u8 0, .int .u8 0, .int .u8 0, .int .u8 0, .int .u8 0, .int .u8 0, .int .u8 0, .int .u8 0, .int .u8 0, .int .u8 0, .int .u8 0, .int .u8 0, .int .u8 0, .int .u8 0, .int .u8 0, .int .u8 0, .int .u8 0, .int .u8 0, .int .u8 0, .int .u8 0, .int .u8 0, .int .u8 0, .int .u8 0, .int .u8 0, .int .u8 0, .int .u8 0], .agg #[.int .u8 0, .int .u8 0, .int .u8 0, .int .u8 0, .int .u8 0, .int .u8 0, .int .u8 0, .int .u8 0, .int .u8 0, .int .u8 0, .int .u8 0, .int .u8 0, .int .u8 0, .int .u8 0, .int .u8 0, .int .u8 0, .int .u8 0, .int .u8 0, .int .u8 0, .int .u8 0, .int .u8 0, .int .u8 0, .int .u8 0, .int .u8 0, .int .u8 0, .int .u8 0, .int .u8 0, .int .u8 0, .int .u8 0, .int .u8 0, .int .u8 0, .int .u8 0]], []⟩ 8 (by kernel_rfl) (by kernel_rfl) (by kernel_rfl) (by kernel_rfl)) ?_
  intro W base args ds gs before hval0 hW _ _
  have hval : ∀ (j : Nat) t v, Try.f8.params[j]? = some t → args[j]? = some v → Value.okWide Try.prog W .any base t v := hval0
  have hW' := hW
  obtain ⟨p, q, hA0, _, rfl, _, _⟩ := hW
  have hA : DataW.TrodAll enc Try.prog W 0 (fun _ => true) true Try.f8.params.toList args.toList ds p := hA0
  rw [Try.params8] at hA hval
  obtain ⟨v0, vs0, d0, ds0, p0, q0, hargs, rfl, rfl, h0, r0⟩ := trodAll_cons hA
  obtain ⟨v1, vs1, d1, ds1, p1, q1, rfl, rfl, rfl, h1, r1⟩ := trodAll_cons r0
  obtain ⟨rfl, rfl, rfl⟩ := trodAll_nil r1
  obtain rfl : args = #[v0, v1] := by cases args; simp_all
  obtain ⟨a0, rfl, l0, w0⟩ := okWide_ints 5 Try.underlying22 (by kernel_rfl) (by kernel_rfl) Try.underlying5 (hval 0 22 v0 rfl rfl)
  obtain ⟨a1, rfl, l1, w1⟩ := okWide_ints 5 Try.underlying22 (by kernel_rfl) (by kernel_rfl) Try.underlying5 (hval 1 22 v1 rfl rfl)
  clear hA0 hval0
  refine (walk a0 l0 w0 a1 l1 w1 W).mono fun e W' ⟨he, hg⟩ => ?_
  subst he
  exact ⟨_, rfl, law_post laidOut hW' rfl rfl Try.underlying4 rfl (by kernel_rfl) hg⟩

theorem over : Rows.fnCoordinatesRow.holds Try.pinned (OpenSpec.ofChange Rows.fnCoordinatesSpec) :=
  OpenClaim.holds_of_wide 8 Try.f8 rfl rfl rfl rfl rfl rfl rfl ⟨rfl, rfl, rfl, rfl, rfl⟩ rfl rfl rfl rfl rfl (by kernel_rfl) Try.func8 (by kernel_rfl)
    (of_decide_eq_true (by kernel_rfl)) (by unfold Func.isWrapper; first | (rw [if_pos (by decide +kernel)]; kernel_rfl) | (rw [if_neg (by decide +kernel)]; exact ⟨rfl, rfl⟩))
    (fun os started H enc _ => lifted os started H enc)

/-- THE STATEMENT. -/
theorem proved : Rows.FnCoordinatesSaid :=
  over
#print axioms proved
end Go.Proofs.Ytbdmicmohopmaaa.fnCoordinates
