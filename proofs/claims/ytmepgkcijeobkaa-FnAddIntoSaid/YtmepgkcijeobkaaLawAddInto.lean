/-
  What FnAddInto says: a sum whose receiver is one of the points is the same.
  Conditions: none.
-/
import Derived.Test.YtmepgkcijeobkaaRows
import Derived.Test.YtmepgkcijeobkaaFin
import Derived.Test.YtmepgkcijeobkaaRdaLaw0
import Derived.Test.YtmepgkcijeobkaaSum
import Derived.WalkKit
import Derived.WalkSpells
import Derived.Outline
import Derived.ProofKit
import Derived.OpenShut
namespace Go.Proofs.Ytmepgkcijeobkaa.fnAddInto
open Go Go.ChangeShapes Go.WideShapes Go.ChangeAt Go.RowKit Ecp
set_option linter.unusedSimpArgs false
set_option linter.unusedVariables false

set_option maxHeartbeats 4000000 in
set_option maxRecDepth 100000 in
theorem big0 (a0 : Option Addr) (n0 k0 : Nat) (a1 : Option Addr) (n1 k1 : Nat) (wh : Nat) (hn0 : (2147483647 : Int) < n0) (w : World)  :
    Calls Try.prog 20 #[.int .u8 (wh : Int), .slice a0 n0 k0, .slice a1 n1 k1] w fun e w' => e = .returned (.bool true) ∧ Below w.heap.size w w' := by
  go_enter Try.func20, Try.ntmps20
  go_wp2_with (first | (first | (refine wpList_load_rowW rfl 26 _ rfl _ rfl _ _ _ _ (by (with_reducible first | assumption | (simp only [hsA, setRow_heap]; first | done | rfl) | (repeat (first | assumption | (refine heap_at _ _ _ ?_; simp only [hsA, setRow_heap]; done) | refine ext_row (Ext.al _ _) ?_ | refine ext_row (Ext.gr _ _) ?_ | refine ext_row (by assumption) ?_)))) Try.underlying26 rfl (inP _ _ _) ?_) | (refine wpList_load_partW rfl 26 _ rfl _ _ rfl _ _ _ (by (with_reducible first | assumption | (simp only [hsA, setRow_heap]; first | done | rfl) | (repeat (first | assumption | (refine heap_at _ _ _ ?_; simp only [hsA, setRow_heap]; done) | refine ext_row (Ext.al _ _) ?_ | refine ext_row (Ext.gr _ _) ?_ | refine ext_row (by assumption) ?_)))) _ (by first | with_reducible exact pc_x _ _ _ | with_reducible exact pc_y _ _ _ | with_reducible exact tc_x _ _ _ | with_reducible exact tc_y _ _ _ | with_reducible exact tc_z _ _ _) _ Try.underlying26 rfl (inP _ _ _) ?_) | (refine wpList_store_rowW rfl 26 _ _ rfl _ _ rfl rfl _ _ (by (with_reducible first | assumption | (simp only [hsA, setRow_heap]; first | done | rfl) | (repeat (first | assumption | (refine heap_at _ _ _ ?_; simp only [hsA, setRow_heap]; done) | refine ext_row (Ext.al _ _) ?_ | refine ext_row (Ext.gr _ _) ?_ | refine ext_row (by assumption) ?_)))) (inP _ _ _) (by simp only [ec_size, bc_size, pc_size, tc_size, ec_size, bc_size, pc_size, tc_size]; try rfl) (pc_one _ _ _) ?_; (try simp only [nmA]))))
  refine bodyPost_ret (v := .bool true) (by simp [results, Try.results20, go_sem]) rfl ⟨rfl, Ext.below (by (repeat (first | exact Ext.refl _ | assumption | exact hE6 .. | refine Ext.trans ?_ (Ext.al _ _) | refine Ext.trans ?_ (Ext.gr _ _) | refine Ext.trans ?_ (by with_reducible assumption) | refine Ext.setRow ?_ (by first | omega | (simp <;> omega)) _)))⟩
set_option maxHeartbeats 4000000 in
set_option maxRecDepth 100000 in
theorem big1 (a0 : Option Addr) (n0 k0 : Nat) (a1 : Option Addr) (n1 k1 : Nat) (wh : Nat) (hn0 : ¬ (2147483647 : Int) < n0) (hn1 : (2147483647 : Int) < n1) (w : World)  :
    Calls Try.prog 20 #[.int .u8 (wh : Int), .slice a0 n0 k0, .slice a1 n1 k1] w fun e w' => e = .returned (.bool true) ∧ Below w.heap.size w w' := by
  go_enter Try.func20, Try.ntmps20
  go_wp2_with (first | (first | (refine wpList_load_rowW rfl 26 _ rfl _ rfl _ _ _ _ (by (with_reducible first | assumption | (simp only [hsA, setRow_heap]; first | done | rfl) | (repeat (first | assumption | (refine heap_at _ _ _ ?_; simp only [hsA, setRow_heap]; done) | refine ext_row (Ext.al _ _) ?_ | refine ext_row (Ext.gr _ _) ?_ | refine ext_row (by assumption) ?_)))) Try.underlying26 rfl (inP _ _ _) ?_) | (refine wpList_load_partW rfl 26 _ rfl _ _ rfl _ _ _ (by (with_reducible first | assumption | (simp only [hsA, setRow_heap]; first | done | rfl) | (repeat (first | assumption | (refine heap_at _ _ _ ?_; simp only [hsA, setRow_heap]; done) | refine ext_row (Ext.al _ _) ?_ | refine ext_row (Ext.gr _ _) ?_ | refine ext_row (by assumption) ?_)))) _ (by first | with_reducible exact pc_x _ _ _ | with_reducible exact pc_y _ _ _ | with_reducible exact tc_x _ _ _ | with_reducible exact tc_y _ _ _ | with_reducible exact tc_z _ _ _) _ Try.underlying26 rfl (inP _ _ _) ?_) | (refine wpList_store_rowW rfl 26 _ _ rfl _ _ rfl rfl _ _ (by (with_reducible first | assumption | (simp only [hsA, setRow_heap]; first | done | rfl) | (repeat (first | assumption | (refine heap_at _ _ _ ?_; simp only [hsA, setRow_heap]; done) | refine ext_row (Ext.al _ _) ?_ | refine ext_row (Ext.gr _ _) ?_ | refine ext_row (by assumption) ?_)))) (inP _ _ _) (by simp only [ec_size, bc_size, pc_size, tc_size, ec_size, bc_size, pc_size, tc_size]; try rfl) (pc_one _ _ _) ?_; (try simp only [nmA]))))
  refine bodyPost_ret (v := .bool true) (by simp [results, Try.results20, go_sem]) rfl ⟨rfl, Ext.below (by (repeat (first | exact Ext.refl _ | assumption | exact hE6 .. | refine Ext.trans ?_ (Ext.al _ _) | refine Ext.trans ?_ (Ext.gr _ _) | refine Ext.trans ?_ (by with_reducible assumption) | refine Ext.setRow ?_ (by first | omega | (simp <;> omega)) _)))⟩
set_option maxHeartbeats 4000000 in
set_option maxRecDepth 100000 in
theorem no0 (a0 : Option Addr) (n0 k0 : Nat) (a1 : Option Addr) (n1 k1 : Nat) (wh : Nat) (f0 : Bool) (X0 Y0 : Int) (f1 : Bool) (X1 Y1 : Int) (t1 : Bool) (hn0 : ¬ (2147483647 : Int) < n0) (hn1 : ¬ (2147483647 : Int) < n1) (w : World) (hR0 : ∀ w1, Ext w w1 → Calls Try.prog 22 #[.slice a0 n0 k0] w1 fun e w2 => e = .returned (.tuple #[.agg (pc f0 X0 Y0), .bool false]) ∧ Ext w1 w2) (hR1 : ∀ w1, Ext w w1 → Calls Try.prog 22 #[.slice a1 n1 k1] w1 fun e w2 => e = .returned (.tuple #[.agg (pc f1 X1 Y1), .bool t1]) ∧ Ext w1 w2) :
    Calls Try.prog 20 #[.int .u8 (wh : Int), .slice a0 n0 k0, .slice a1 n1 k1] w fun e w' => e = .returned (.bool true) ∧ Below w.heap.size w w' := by
  have HR0 := Lib.hid hR0
  have HR1 := Lib.hid hR1
  clear hR0 hR1 
  go_enter Try.func20, Try.ntmps20
  go_wp2_with (first | (go_at_call 22; first | ((with_reducible refine (HR0.out _ (by (repeat (first | exact Ext.refl _ | assumption | exact hE6 .. | refine Ext.trans ?_ (Ext.al _ _) | refine Ext.trans ?_ (Ext.gr _ _) | refine Ext.trans ?_ (by with_reducible assumption) | refine Ext.setRow ?_ (by first | omega | (simp <;> omega)) _)))).mono ?_); rintro e w' ⟨rfl, g1, rfl⟩) | ((with_reducible refine (HR1.out _ (by (repeat (first | exact Ext.refl _ | assumption | exact hE6 .. | refine Ext.trans ?_ (Ext.al _ _) | refine Ext.trans ?_ (Ext.gr _ _) | refine Ext.trans ?_ (by with_reducible assumption) | refine Ext.setRow ?_ (by first | omega | (simp <;> omega)) _)))).mono ?_); rintro e w' ⟨rfl, g2, rfl⟩) | fail) | (first | (refine wpList_load_rowW rfl 26 _ rfl _ rfl _ _ _ _ (by (with_reducible first | assumption | (simp only [hsA, setRow_heap]; first | done | rfl) | (repeat (first | assumption | (refine heap_at _ _ _ ?_; simp only [hsA, setRow_heap]; done) | refine ext_row (Ext.al _ _) ?_ | refine ext_row (Ext.gr _ _) ?_ | refine ext_row (by assumption) ?_)))) Try.underlying26 rfl (inP _ _ _) ?_) | (refine wpList_load_partW rfl 26 _ rfl _ _ rfl _ _ _ (by (with_reducible first | assumption | (simp only [hsA, setRow_heap]; first | done | rfl) | (repeat (first | assumption | (refine heap_at _ _ _ ?_; simp only [hsA, setRow_heap]; done) | refine ext_row (Ext.al _ _) ?_ | refine ext_row (Ext.gr _ _) ?_ | refine ext_row (by assumption) ?_)))) _ (by first | with_reducible exact pc_x _ _ _ | with_reducible exact pc_y _ _ _ | with_reducible exact tc_x _ _ _ | with_reducible exact tc_y _ _ _ | with_reducible exact tc_z _ _ _) _ Try.underlying26 rfl (inP _ _ _) ?_) | (refine wpList_store_rowW rfl 26 _ _ rfl _ _ rfl rfl _ _ (by (with_reducible first | assumption | (simp only [hsA, setRow_heap]; first | done | rfl) | (repeat (first | assumption | (refine heap_at _ _ _ ?_; simp only [hsA, setRow_heap]; done) | refine ext_row (Ext.al _ _) ?_ | refine ext_row (Ext.gr _ _) ?_ | refine ext_row (by assumption) ?_)))) (inP _ _ _) (by simp only [ec_size, bc_size, pc_size, tc_size, ec_size, bc_size, pc_size, tc_size]; try rfl) (pc_one _ _ _) ?_; (try simp only [nmA]))))
  refine bodyPost_ret (v := .bool true) (by simp [results, Try.results20, go_sem]) rfl ⟨rfl, Ext.below (by (repeat (first | exact Ext.refl _ | assumption | exact hE6 .. | refine Ext.trans ?_ (Ext.al _ _) | refine Ext.trans ?_ (Ext.gr _ _) | refine Ext.trans ?_ (by with_reducible assumption) | refine Ext.setRow ?_ (by first | omega | (simp <;> omega)) _)))⟩
set_option maxHeartbeats 4000000 in
set_option maxRecDepth 100000 in
theorem no1 (a0 : Option Addr) (n0 k0 : Nat) (a1 : Option Addr) (n1 k1 : Nat) (wh : Nat) (f0 : Bool) (X0 Y0 : Int) (f1 : Bool) (X1 Y1 : Int) (hn0 : ¬ (2147483647 : Int) < n0) (hn1 : ¬ (2147483647 : Int) < n1) (w : World) (hR0 : ∀ w1, Ext w w1 → Calls Try.prog 22 #[.slice a0 n0 k0] w1 fun e w2 => e = .returned (.tuple #[.agg (pc f0 X0 Y0), .bool true]) ∧ Ext w1 w2) (hR1 : ∀ w1, Ext w w1 → Calls Try.prog 22 #[.slice a1 n1 k1] w1 fun e w2 => e = .returned (.tuple #[.agg (pc f1 X1 Y1), .bool false]) ∧ Ext w1 w2) :
    Calls Try.prog 20 #[.int .u8 (wh : Int), .slice a0 n0 k0, .slice a1 n1 k1] w fun e w' => e = .returned (.bool true) ∧ Below w.heap.size w w' := by
  have HR0 := Lib.hid hR0
  have HR1 := Lib.hid hR1
  clear hR0 hR1 
  go_enter Try.func20, Try.ntmps20
  go_wp2_with (first | (go_at_call 22; first | ((with_reducible refine (HR0.out _ (by (repeat (first | exact Ext.refl _ | assumption | exact hE6 .. | refine Ext.trans ?_ (Ext.al _ _) | refine Ext.trans ?_ (Ext.gr _ _) | refine Ext.trans ?_ (by with_reducible assumption) | refine Ext.setRow ?_ (by first | omega | (simp <;> omega)) _)))).mono ?_); rintro e w' ⟨rfl, g1, rfl⟩) | ((with_reducible refine (HR1.out _ (by (repeat (first | exact Ext.refl _ | assumption | exact hE6 .. | refine Ext.trans ?_ (Ext.al _ _) | refine Ext.trans ?_ (Ext.gr _ _) | refine Ext.trans ?_ (by with_reducible assumption) | refine Ext.setRow ?_ (by first | omega | (simp <;> omega)) _)))).mono ?_); rintro e w' ⟨rfl, g2, rfl⟩) | fail) | (first | (refine wpList_load_rowW rfl 26 _ rfl _ rfl _ _ _ _ (by (with_reducible first | assumption | (simp only [hsA, setRow_heap]; first | done | rfl) | (repeat (first | assumption | (refine heap_at _ _ _ ?_; simp only [hsA, setRow_heap]; done) | refine ext_row (Ext.al _ _) ?_ | refine ext_row (Ext.gr _ _) ?_ | refine ext_row (by assumption) ?_)))) Try.underlying26 rfl (inP _ _ _) ?_) | (refine wpList_load_partW rfl 26 _ rfl _ _ rfl _ _ _ (by (with_reducible first | assumption | (simp only [hsA, setRow_heap]; first | done | rfl) | (repeat (first | assumption | (refine heap_at _ _ _ ?_; simp only [hsA, setRow_heap]; done) | refine ext_row (Ext.al _ _) ?_ | refine ext_row (Ext.gr _ _) ?_ | refine ext_row (by assumption) ?_)))) _ (by first | with_reducible exact pc_x _ _ _ | with_reducible exact pc_y _ _ _ | with_reducible exact tc_x _ _ _ | with_reducible exact tc_y _ _ _ | with_reducible exact tc_z _ _ _) _ Try.underlying26 rfl (inP _ _ _) ?_) | (refine wpList_store_rowW rfl 26 _ _ rfl _ _ rfl rfl _ _ (by (with_reducible first | assumption | (simp only [hsA, setRow_heap]; first | done | rfl) | (repeat (first | assumption | (refine heap_at _ _ _ ?_; simp only [hsA, setRow_heap]; done) | refine ext_row (Ext.al _ _) ?_ | refine ext_row (Ext.gr _ _) ?_ | refine ext_row (by assumption) ?_)))) (inP _ _ _) (by simp only [ec_size, bc_size, pc_size, tc_size, ec_size, bc_size, pc_size, tc_size]; try rfl) (pc_one _ _ _) ?_; (try simp only [nmA]))))
  refine bodyPost_ret (v := .bool true) (by simp [results, Try.results20, go_sem]) rfl ⟨rfl, Ext.below (by (repeat (first | exact Ext.refl _ | assumption | exact hE6 .. | refine Ext.trans ?_ (Ext.al _ _) | refine Ext.trans ?_ (Ext.gr _ _) | refine Ext.trans ?_ (by with_reducible assumption) | refine Ext.setRow ?_ (by first | omega | (simp <;> omega)) _)))⟩
set_option maxHeartbeats 4000000 in
set_option maxRecDepth 100000 in
theorem good_0 (a0 : Option Addr) (n0 k0 : Nat) (a1 : Option Addr) (n1 k1 : Nat) (wh : Nat) (hw1 : wh < 256) (hm : (wh : Int) % 3 = 0) (f0 : Bool) (X0 Y0 : Int) (f1 : Bool) (X1 Y1 : Int) (f2 : Bool) (X2 Y2 : Int) (N2 : Nat) (L2 : List Int) (hn0 : ¬ (2147483647 : Int) < n0) (hn1 : ¬ (2147483647 : Int) < n1) (w : World) (hR0 : ∀ w1, Ext w w1 → Calls Try.prog 22 #[.slice a0 n0 k0] w1 fun e w2 => e = .returned (.tuple #[.agg (pc f0 X0 Y0), .bool true]) ∧ Ext w1 w2) (hR1 : ∀ w1, Ext w w1 → Calls Try.prog 22 #[.slice a1 n1 k1] w1 fun e w2 => e = .returned (.tuple #[.agg (pc f1 X1 Y1), .bool true]) ∧ Ext w1 w2) (hA : ∀  w1, Ext w w1 → Calls Try.prog 52 #[.int .i64 0, .slice a0 n0 k0, .slice a1 n1 k1] w1 fun e w2 => ∃ g0, e = .returned (.tuple #[.slice (some ⟨g0, 0, none⟩) N2 65, .bool true]) ∧ g0 < w2.heap.size ∧ Ext w1 w2 ∧ Held .u8 w2 g0 0 L2) (hS : ∀ w1, Calls Try.prog 40 #[.agg (pc f0 X0 Y0), .agg (pc f1 X1 Y1)] w1 fun e w2 => e = .returned (.agg (pc f2 X2 Y2)) ∧ Ext w1 w2) (hT : ∀ x0 k0 w1, x0 < w1.heap.size → Held .u8 w1 x0 0 L2 → Calls Try.prog 29 #[.slice (some ⟨x0, 0, none⟩) N2 k0, .agg (pc f2 X2 Y2)] w1 fun e w2 => e = .returned (.bool true) ∧ Ext w1 w2) :
    Calls Try.prog 20 #[.int .u8 (wh : Int), .slice a0 n0 k0, .slice a1 n1 k1] w fun e w' => e = .returned (.bool true) ∧ Below w.heap.size w w' := by
  have HR0 := Lib.hid hR0
  have HR1 := Lib.hid hR1
  have HA := Lib.hid hA
  have HS := Lib.hid hS
  have HT := Lib.hid hT
  clear hR0 hR1 hA hS hT 
  go_enter Try.func20, Try.ntmps20
  go_wp2_with (first | (go_at_call 22; first | ((with_reducible refine (HR0.out _ (by (repeat (first | exact Ext.refl _ | assumption | exact hE6 .. | refine Ext.trans ?_ (Ext.al _ _) | refine Ext.trans ?_ (Ext.gr _ _) | refine Ext.trans ?_ (by with_reducible assumption) | refine Ext.setRow ?_ (by first | omega | (simp <;> omega)) _)))).mono ?_); rintro e w' ⟨rfl, g1, rfl⟩) | ((with_reducible refine (HR1.out _ (by (repeat (first | exact Ext.refl _ | assumption | exact hE6 .. | refine Ext.trans ?_ (Ext.al _ _) | refine Ext.trans ?_ (Ext.gr _ _) | refine Ext.trans ?_ (by with_reducible assumption) | refine Ext.setRow ?_ (by first | omega | (simp <;> omega)) _)))).mono ?_); rintro e w' ⟨rfl, g2, rfl⟩) | fail) | (go_at_call 52; first | ((with_reducible refine (HA.out _ (by (repeat (first | exact Ext.refl _ | assumption | exact hE6 .. | refine Ext.trans ?_ (Ext.al _ _) | refine Ext.trans ?_ (Ext.gr _ _) | refine Ext.trans ?_ (by with_reducible assumption) | refine Ext.setRow ?_ (by first | omega | (simp <;> omega)) _))) ).mono ?_); rintro e w' ⟨b3_0, rfl, hl3_0, ⟨g3, rfl⟩, hh3_0⟩) | fail) | (go_at_call 40; first | ((with_reducible refine (HS.out _).mono ?_); rintro e w' ⟨rfl, g4, rfl⟩) | fail) | (go_at_call 29; first | ((with_reducible refine (HT.out _ _ _ (by first | exact hl3_0 | exact Ext.lt (by (repeat (first | exact Ext.refl _ | assumption | exact hE6 .. | refine Ext.trans ?_ (Ext.al _ _) | refine Ext.trans ?_ (Ext.gr _ _) | refine Ext.trans ?_ (by with_reducible assumption) | refine Ext.setRow ?_ (by first | omega | (simp <;> omega)) _))) hl3_0) (by first | exact hh3_0 | exact Ext.held (by (repeat (first | exact Ext.refl _ | assumption | exact hE6 .. | refine Ext.trans ?_ (Ext.al _ _) | refine Ext.trans ?_ (Ext.gr _ _) | refine Ext.trans ?_ (by with_reducible assumption) | refine Ext.setRow ?_ (by first | omega | (simp <;> omega)) _))) hl3_0 hh3_0)).mono ?_); rintro e w' ⟨rfl, g5, rfl⟩) | fail) | (first | (refine wpList_load_rowW rfl 26 _ rfl _ rfl _ _ _ _ (by (with_reducible first | assumption | (simp only [hsA, setRow_heap]; first | done | rfl) | (repeat (first | assumption | (refine heap_at _ _ _ ?_; simp only [hsA, setRow_heap]; done) | refine ext_row (Ext.al _ _) ?_ | refine ext_row (Ext.gr _ _) ?_ | refine ext_row (by assumption) ?_)))) Try.underlying26 rfl (inP _ _ _) ?_) | (refine wpList_load_partW rfl 26 _ rfl _ _ rfl _ _ _ (by (with_reducible first | assumption | (simp only [hsA, setRow_heap]; first | done | rfl) | (repeat (first | assumption | (refine heap_at _ _ _ ?_; simp only [hsA, setRow_heap]; done) | refine ext_row (Ext.al _ _) ?_ | refine ext_row (Ext.gr _ _) ?_ | refine ext_row (by assumption) ?_)))) _ (by first | with_reducible exact pc_x _ _ _ | with_reducible exact pc_y _ _ _ | with_reducible exact tc_x _ _ _ | with_reducible exact tc_y _ _ _ | with_reducible exact tc_z _ _ _) _ Try.underlying26 rfl (inP _ _ _) ?_) | (refine wpList_store_rowW rfl 26 _ _ rfl _ _ rfl rfl _ _ (by (with_reducible first | assumption | (simp only [hsA, setRow_heap]; first | done | rfl) | (repeat (first | assumption | (refine heap_at _ _ _ ?_; simp only [hsA, setRow_heap]; done) | refine ext_row (Ext.al _ _) ?_ | refine ext_row (Ext.gr _ _) ?_ | refine ext_row (by assumption) ?_)))) (inP _ _ _) (by simp only [ec_size, bc_size, pc_size, tc_size, ec_size, bc_size, pc_size, tc_size]; try rfl) (pc_one _ _ _) ?_; (try simp only [nmA]))))
  refine bodyPost_ret (v := .bool true) (by simp [results, Try.results20, go_sem]) rfl ⟨rfl, Ext.below (by (repeat (first | exact Ext.refl _ | assumption | exact hE6 .. | refine Ext.trans ?_ (Ext.al _ _) | refine Ext.trans ?_ (Ext.gr _ _) | refine Ext.trans ?_ (by with_reducible assumption) | refine Ext.setRow ?_ (by first | omega | (simp <;> omega)) _)))⟩
set_option maxHeartbeats 4000000 in
set_option maxRecDepth 100000 in
theorem good_1 (a0 : Option Addr) (n0 k0 : Nat) (a1 : Option Addr) (n1 k1 : Nat) (wh : Nat) (hw1 : wh < 256) (hm : (wh : Int) % 3 = 1) (f0 : Bool) (X0 Y0 : Int) (f1 : Bool) (X1 Y1 : Int) (f2 : Bool) (X2 Y2 : Int) (N2 : Nat) (L2 : List Int) (hn0 : ¬ (2147483647 : Int) < n0) (hn1 : ¬ (2147483647 : Int) < n1) (w : World) (hR0 : ∀ w1, Ext w w1 → Calls Try.prog 22 #[.slice a0 n0 k0] w1 fun e w2 => e = .returned (.tuple #[.agg (pc f0 X0 Y0), .bool true]) ∧ Ext w1 w2) (hR1 : ∀ w1, Ext w w1 → Calls Try.prog 22 #[.slice a1 n1 k1] w1 fun e w2 => e = .returned (.tuple #[.agg (pc f1 X1 Y1), .bool true]) ∧ Ext w1 w2) (hA : ∀  w1, Ext w w1 → Calls Try.prog 52 #[.int .i64 1, .slice a0 n0 k0, .slice a1 n1 k1] w1 fun e w2 => ∃ g0, e = .returned (.tuple #[.slice (some ⟨g0, 0, none⟩) N2 65, .bool true]) ∧ g0 < w2.heap.size ∧ Ext w1 w2 ∧ Held .u8 w2 g0 0 L2) (hS : ∀ w1, Calls Try.prog 40 #[.agg (pc f0 X0 Y0), .agg (pc f1 X1 Y1)] w1 fun e w2 => e = .returned (.agg (pc f2 X2 Y2)) ∧ Ext w1 w2) (hT : ∀ x0 k0 w1, x0 < w1.heap.size → Held .u8 w1 x0 0 L2 → Calls Try.prog 29 #[.slice (some ⟨x0, 0, none⟩) N2 k0, .agg (pc f2 X2 Y2)] w1 fun e w2 => e = .returned (.bool true) ∧ Ext w1 w2) :
    Calls Try.prog 20 #[.int .u8 (wh : Int), .slice a0 n0 k0, .slice a1 n1 k1] w fun e w' => e = .returned (.bool true) ∧ Below w.heap.size w w' := by
  have HR0 := Lib.hid hR0
  have HR1 := Lib.hid hR1
  have HA := Lib.hid hA
  have HS := Lib.hid hS
  have HT := Lib.hid hT
  clear hR0 hR1 hA hS hT 
  go_enter Try.func20, Try.ntmps20
  go_wp2_with (first | (go_at_call 22; first | ((with_reducible refine (HR0.out _ (by (repeat (first | exact Ext.refl _ | assumption | exact hE6 .. | refine Ext.trans ?_ (Ext.al _ _) | refine Ext.trans ?_ (Ext.gr _ _) | refine Ext.trans ?_ (by with_reducible assumption) | refine Ext.setRow ?_ (by first | omega | (simp <;> omega)) _)))).mono ?_); rintro e w' ⟨rfl, g1, rfl⟩) | ((with_reducible refine (HR1.out _ (by (repeat (first | exact Ext.refl _ | assumption | exact hE6 .. | refine Ext.trans ?_ (Ext.al _ _) | refine Ext.trans ?_ (Ext.gr _ _) | refine Ext.trans ?_ (by with_reducible assumption) | refine Ext.setRow ?_ (by first | omega | (simp <;> omega)) _)))).mono ?_); rintro e w' ⟨rfl, g2, rfl⟩) | fail) | (go_at_call 52; first | ((with_reducible refine (HA.out _ (by (repeat (first | exact Ext.refl _ | assumption | exact hE6 .. | refine Ext.trans ?_ (Ext.al _ _) | refine Ext.trans ?_ (Ext.gr _ _) | refine Ext.trans ?_ (by with_reducible assumption) | refine Ext.setRow ?_ (by first | omega | (simp <;> omega)) _))) ).mono ?_); rintro e w' ⟨b3_0, rfl, hl3_0, ⟨g3, rfl⟩, hh3_0⟩) | fail) | (go_at_call 40; first | ((with_reducible refine (HS.out _).mono ?_); rintro e w' ⟨rfl, g4, rfl⟩) | fail) | (go_at_call 29; first | ((with_reducible refine (HT.out _ _ _ (by first | exact hl3_0 | exact Ext.lt (by (repeat (first | exact Ext.refl _ | assumption | exact hE6 .. | refine Ext.trans ?_ (Ext.al _ _) | refine Ext.trans ?_ (Ext.gr _ _) | refine Ext.trans ?_ (by with_reducible assumption) | refine Ext.setRow ?_ (by first | omega | (simp <;> omega)) _))) hl3_0) (by first | exact hh3_0 | exact Ext.held (by (repeat (first | exact Ext.refl _ | assumption | exact hE6 .. | refine Ext.trans ?_ (Ext.al _ _) | refine Ext.trans ?_ (Ext.gr _ _) | refine Ext.trans ?_ (by with_reducible assumption) | refine Ext.setRow ?_ (by first | omega | (simp <;> omega)) _))) hl3_0 hh3_0)).mono ?_); rintro e w' ⟨rfl, g5, rfl⟩) | fail) | (first | (refine wpList_load_rowW rfl 26 _ rfl _ rfl _ _ _ _ (by (with_reducible first | assumption | (simp only [hsA, setRow_heap]; first | done | rfl) | (repeat (first | assumption | (refine heap_at _ _ _ ?_; simp only [hsA, setRow_heap]; done) | refine ext_row (Ext.al _ _) ?_ | refine ext_row (Ext.gr _ _) ?_ | refine ext_row (by assumption) ?_)))) Try.underlying26 rfl (inP _ _ _) ?_) | (refine wpList_load_partW rfl 26 _ rfl _ _ rfl _ _ _ (by (with_reducible first | assumption | (simp only [hsA, setRow_heap]; first | done | rfl) | (repeat (first | assumption | (refine heap_at _ _ _ ?_; simp only [hsA, setRow_heap]; done) | refine ext_row (Ext.al _ _) ?_ | refine ext_row (Ext.gr _ _) ?_ | refine ext_row (by assumption) ?_)))) _ (by first | with_reducible exact pc_x _ _ _ | with_reducible exact pc_y _ _ _ | with_reducible exact tc_x _ _ _ | with_reducible exact tc_y _ _ _ | with_reducible exact tc_z _ _ _) _ Try.underlying26 rfl (inP _ _ _) ?_) | (refine wpList_store_rowW rfl 26 _ _ rfl _ _ rfl rfl _ _ (by (with_reducible first | assumption | (simp only [hsA, setRow_heap]; first | done | rfl) | (repeat (first | assumption | (refine heap_at _ _ _ ?_; simp only [hsA, setRow_heap]; done) | refine ext_row (Ext.al _ _) ?_ | refine ext_row (Ext.gr _ _) ?_ | refine ext_row (by assumption) ?_)))) (inP _ _ _) (by simp only [ec_size, bc_size, pc_size, tc_size, ec_size, bc_size, pc_size, tc_size]; try rfl) (pc_one _ _ _) ?_; (try simp only [nmA]))))
  refine bodyPost_ret (v := .bool true) (by simp [results, Try.results20, go_sem]) rfl ⟨rfl, Ext.below (by (repeat (first | exact Ext.refl _ | assumption | exact hE6 .. | refine Ext.trans ?_ (Ext.al _ _) | refine Ext.trans ?_ (Ext.gr _ _) | refine Ext.trans ?_ (by with_reducible assumption) | refine Ext.setRow ?_ (by first | omega | (simp <;> omega)) _)))⟩
set_option maxHeartbeats 4000000 in
set_option maxRecDepth 100000 in
theorem good_2 (a0 : Option Addr) (n0 k0 : Nat) (a1 : Option Addr) (n1 k1 : Nat) (wh : Nat) (hw1 : wh < 256) (hm : (wh : Int) % 3 = 2) (f0 : Bool) (X0 Y0 : Int) (f1 : Bool) (X1 Y1 : Int) (f2 : Bool) (X2 Y2 : Int) (N2 : Nat) (L2 : List Int) (hn0 : ¬ (2147483647 : Int) < n0) (hn1 : ¬ (2147483647 : Int) < n1) (w : World) (hR0 : ∀ w1, Ext w w1 → Calls Try.prog 22 #[.slice a0 n0 k0] w1 fun e w2 => e = .returned (.tuple #[.agg (pc f0 X0 Y0), .bool true]) ∧ Ext w1 w2) (hR1 : ∀ w1, Ext w w1 → Calls Try.prog 22 #[.slice a1 n1 k1] w1 fun e w2 => e = .returned (.tuple #[.agg (pc f1 X1 Y1), .bool true]) ∧ Ext w1 w2) (hA : ∀  w1, Ext w w1 → Calls Try.prog 52 #[.int .i64 2, .slice a0 n0 k0, .slice a1 n1 k1] w1 fun e w2 => ∃ g0, e = .returned (.tuple #[.slice (some ⟨g0, 0, none⟩) N2 65, .bool true]) ∧ g0 < w2.heap.size ∧ Ext w1 w2 ∧ Held .u8 w2 g0 0 L2) (hS : ∀ w1, Calls Try.prog 40 #[.agg (pc f0 X0 Y0), .agg (pc f0 X0 Y0)] w1 fun e w2 => e = .returned (.agg (pc f2 X2 Y2)) ∧ Ext w1 w2) (hT : ∀ x0 k0 w1, x0 < w1.heap.size → Held .u8 w1 x0 0 L2 → Calls Try.prog 29 #[.slice (some ⟨x0, 0, none⟩) N2 k0, .agg (pc f2 X2 Y2)] w1 fun e w2 => e = .returned (.bool true) ∧ Ext w1 w2) :
    Calls Try.prog 20 #[.int .u8 (wh : Int), .slice a0 n0 k0, .slice a1 n1 k1] w fun e w' => e = .returned (.bool true) ∧ Below w.heap.size w w' := by
  have HR0 := Lib.hid hR0
  have HR1 := Lib.hid hR1
  have HA := Lib.hid hA
  have HS := Lib.hid hS
  have HT := Lib.hid hT
  clear hR0 hR1 hA hS hT 
  go_enter Try.func20, Try.ntmps20
  go_wp2_with (first | (go_at_call 22; first | ((with_reducible refine (HR0.out _ (by (repeat (first | exact Ext.refl _ | assumption | exact hE6 .. | refine Ext.trans ?_ (Ext.al _ _) | refine Ext.trans ?_ (Ext.gr _ _) | refine Ext.trans ?_ (by with_reducible assumption) | refine Ext.setRow ?_ (by first | omega | (simp <;> omega)) _)))).mono ?_); rintro e w' ⟨rfl, g1, rfl⟩) | ((with_reducible refine (HR1.out _ (by (repeat (first | exact Ext.refl _ | assumption | exact hE6 .. | refine Ext.trans ?_ (Ext.al _ _) | refine Ext.trans ?_ (Ext.gr _ _) | refine Ext.trans ?_ (by with_reducible assumption) | refine Ext.setRow ?_ (by first | omega | (simp <;> omega)) _)))).mono ?_); rintro e w' ⟨rfl, g2, rfl⟩) | fail) | (go_at_call 52; first | ((with_reducible refine (HA.out _ (by (repeat (first | exact Ext.refl _ | assumption | exact hE6 .. | refine Ext.trans ?_ (Ext.al _ _) | refine Ext.trans ?_ (Ext.gr _ _) | refine Ext.trans ?_ (by with_reducible assumption) | refine Ext.setRow ?_ (by first | omega | (simp <;> omega)) _))) ).mono ?_); rintro e w' ⟨b3_0, rfl, hl3_0, ⟨g3, rfl⟩, hh3_0⟩) | fail) | (go_at_call 40; first | ((with_reducible refine (HS.out _).mono ?_); rintro e w' ⟨rfl, g4, rfl⟩) | fail) | (go_at_call 29; first | ((with_reducible refine (HT.out _ _ _ (by first | exact hl3_0 | exact Ext.lt (by (repeat (first | exact Ext.refl _ | assumption | exact hE6 .. | refine Ext.trans ?_ (Ext.al _ _) | refine Ext.trans ?_ (Ext.gr _ _) | refine Ext.trans ?_ (by with_reducible assumption) | refine Ext.setRow ?_ (by first | omega | (simp <;> omega)) _))) hl3_0) (by first | exact hh3_0 | exact Ext.held (by (repeat (first | exact Ext.refl _ | assumption | exact hE6 .. | refine Ext.trans ?_ (Ext.al _ _) | refine Ext.trans ?_ (Ext.gr _ _) | refine Ext.trans ?_ (by with_reducible assumption) | refine Ext.setRow ?_ (by first | omega | (simp <;> omega)) _))) hl3_0 hh3_0)).mono ?_); rintro e w' ⟨rfl, g5, rfl⟩) | fail) | (first | (refine wpList_load_rowW rfl 26 _ rfl _ rfl _ _ _ _ (by (with_reducible first | assumption | (simp only [hsA, setRow_heap]; first | done | rfl) | (repeat (first | assumption | (refine heap_at _ _ _ ?_; simp only [hsA, setRow_heap]; done) | refine ext_row (Ext.al _ _) ?_ | refine ext_row (Ext.gr _ _) ?_ | refine ext_row (by assumption) ?_)))) Try.underlying26 rfl (inP _ _ _) ?_) | (refine wpList_load_partW rfl 26 _ rfl _ _ rfl _ _ _ (by (with_reducible first | assumption | (simp only [hsA, setRow_heap]; first | done | rfl) | (repeat (first | assumption | (refine heap_at _ _ _ ?_; simp only [hsA, setRow_heap]; done) | refine ext_row (Ext.al _ _) ?_ | refine ext_row (Ext.gr _ _) ?_ | refine ext_row (by assumption) ?_)))) _ (by first | with_reducible exact pc_x _ _ _ | with_reducible exact pc_y _ _ _ | with_reducible exact tc_x _ _ _ | with_reducible exact tc_y _ _ _ | with_reducible exact tc_z _ _ _) _ Try.underlying26 rfl (inP _ _ _) ?_) | (refine wpList_store_rowW rfl 26 _ _ rfl _ _ rfl rfl _ _ (by (with_reducible first | assumption | (simp only [hsA, setRow_heap]; first | done | rfl) | (repeat (first | assumption | (refine heap_at _ _ _ ?_; simp only [hsA, setRow_heap]; done) | refine ext_row (Ext.al _ _) ?_ | refine ext_row (Ext.gr _ _) ?_ | refine ext_row (by assumption) ?_)))) (inP _ _ _) (by simp only [ec_size, bc_size, pc_size, tc_size, ec_size, bc_size, pc_size, tc_size]; try rfl) (pc_one _ _ _) ?_; (try simp only [nmA]))))
  refine bodyPost_ret (v := .bool true) (by simp [results, Try.results20, go_sem]) rfl ⟨rfl, Ext.below (by (repeat (first | exact Ext.refl _ | assumption | exact hE6 .. | refine Ext.trans ?_ (Ext.al _ _) | refine Ext.trans ?_ (Ext.gr _ _) | refine Ext.trans ?_ (by with_reducible assumption) | refine Ext.setRow ?_ (by first | omega | (simp <;> omega)) _)))⟩
theorem walk (a0 : Option Addr) (n0 k0 : Nat) (a1 : Option Addr) (n1 k1 : Nat) (wh : Nat) (hw : wh < 256) (w : World) (hs0 : (2147483647 : Int) < n0 ∨ Bd w a0 n0 k0 ∨ ∃ P, Gd w a0 n0 k0 P) (hs1 : (2147483647 : Int) < n1 ∨ Bd w a1 n1 k1 ∨ ∃ P, Gd w a1 n1 k1 P) :
    Calls Try.prog 20 #[.int .u8 (wh : Int), .slice a0 n0 k0, .slice a1 n1 k1] w fun e w' => e = .returned (.bool true) ∧ Below w.heap.size w w' := by
  rcases hs0 with h0 | h0 | ⟨P0, h0⟩
  · exact big0 a0 n0 k0 a1 n1 k1 wh  h0 w
  · obtain ⟨f0, X0, Y0, hR0⟩ := h0.read
    rcases hs1 with h1 | h1 | ⟨P1, h1⟩
    · exact big1 a0 n0 k0 a1 n1 k1 wh h0.small h1 w
    · obtain ⟨f1, X1, Y1, hR1⟩ := h1.read
      exact no0 a0 n0 k0 a1 n1 k1 wh f0 X0 Y0 f1 X1 Y1 _ h0.small h1.small w hR0 hR1
    · obtain ⟨f1, X1, Y1, hpv1⟩ := pv_row P1
      have hR1 := h1.read
      rw [hpv1] at hR1
      exact no0 a0 n0 k0 a1 n1 k1 wh f0 X0 Y0 f1 X1 Y1 _ h0.small h1.small w hR0 hR1
  · rcases hs1 with h1 | h1 | ⟨P1, h1⟩
    · exact big1 a0 n0 k0 a1 n1 k1 wh h0.small h1 w
    · obtain ⟨f0, X0, Y0, hpv0⟩ := pv_row P0
      have hR0 := h0.read
      rw [hpv0] at hR0
      obtain ⟨f1, X1, Y1, hR1⟩ := h1.read
      exact no1 a0 n0 k0 a1 n1 k1 wh f0 X0 Y0 f1 X1 Y1 h0.small h1.small w hR0 hR1
    · have hsm0 := h0.small
      have hon0 := h0.on
      have hR0 := h0.read
      obtain ⟨f0, X0, Y0, hpv0⟩ := pv_row P0
      rw [hpv0] at hR0
      obtain ⟨c0, o0, l0, rfl, rfl, p0, q0, r0, s0⟩ := h0
      have hsm1 := h1.small
      have hon1 := h1.on
      have hR1 := h1.read
      obtain ⟨f1, X1, Y1, hpv1⟩ := pv_row P1
      rw [hpv1] at hR1
      obtain ⟨c1, o1, l1, rfl, rfl, p1, q1, r1, s1⟩ := h1
      have hcase : (wh : Int) % 3 = 0 ∨ (wh : Int) % 3 = 1 ∨ (wh : Int) % 3 = 2 := by omega
      rcases hcase with hm | hm | hm
      · obtain ⟨f2, X2, Y2, hpv2⟩ := pv_row (psum P0 P1)
        have hS := Sum_any P0 P1
        have hT := fun g k w' h1 h2 => is_self g k (psum P0 P1) w' h1 h2
        rw [hpv0, hpv1, hpv2] at hS
        rw [hpv2] at hT
        exact good_0 _ _ _ _ _ _ wh hw hm f0 X0 Y0 f1 X1 Y1 f2 X2 Y2 _ _ hsm0 hsm1 w hR0 hR1 (fun w' hE => iAddInto_0 c0 o0 k0 c1 o1 k1 l0 l1 P0 P1 w' (hE.lt p0) (hE.held p0 q0) s0 (hE.lt p1) (hE.held p1 q1) s1) hS hT
      · obtain ⟨f2, X2, Y2, hpv2⟩ := pv_row (psum P0 P1)
        have hS := Sum_any P0 P1
        have hT := fun g k w' h1 h2 => is_self g k (psum P0 P1) w' h1 h2
        rw [hpv0, hpv1, hpv2] at hS
        rw [hpv2] at hT
        exact good_1 _ _ _ _ _ _ wh hw hm f0 X0 Y0 f1 X1 Y1 f2 X2 Y2 _ _ hsm0 hsm1 w hR0 hR1 (fun w' hE => iAddInto_1 c0 o0 k0 c1 o1 k1 l0 l1 P0 P1 w' (hE.lt p0) (hE.held p0 q0) s0 (hE.lt p1) (hE.held p1 q1) s1) hS hT
      · obtain ⟨f2, X2, Y2, hpv2⟩ := pv_row (psum P0 P0)
        have hS := Sum_any P0 P0
        have hT := fun g k w' h1 h2 => is_self g k (psum P0 P0) w' h1 h2
        rw [hpv0, hpv2] at hS
        rw [hpv2] at hT
        exact good_2 _ _ _ _ _ _ wh hw hm f0 X0 Y0 f1 X1 Y1 f2 X2 Y2 _ _ hsm0 hsm1 w hR0 hR1 (fun w' hE => iAddInto_2 c0 o0 k0 c1 o1 k1 l0 l1 P0 P1 w' (hE.lt p0) (hE.held p0 q0) s0 (hE.lt p1) (hE.held p1 q1) s1) hS hT
theorem walk2 (a0 : Option Addr) (n0 k0 : Nat) (a1 : Option Addr) (n1 k1 : Nat) (v : Int) (hw : (Lit.int .u8 v).wf = true) (w : World) (hs0 : (2147483647 : Int) < n0 ∨ Bd w a0 n0 k0 ∨ ∃ P, Gd w a0 n0 k0 P) (hs1 : (2147483647 : Int) < n1 ∨ Bd w a1 n1 k1 ∨ ∃ P, Gd w a1 n1 k1 P) :
    Calls Try.prog 20 #[.int .u8 v, .slice a0 n0 k0, .slice a1 n1 k1] w fun e w' => e = .returned (.bool true) ∧ Below w.heap.size w w' := by
  have h := bounds_u8 hw
  obtain ⟨m, rfl⟩ := Int.eq_ofNat_of_zero_le (show 0 ≤ v by omega)
  exact walk a0 n0 k0 a1 n1 k1 m (by omega) w hs0 hs1
theorem own : ownKnob Try.prog.godebug = none := by kernel_rfl
theorem laidOut : laidOutB Try.prog = true := by kernel_rfl

set_option maxRecDepth 100000 in
theorem lifted (os : Os) (started : os.Started) (H : Type) (enc : TypeId × Value → H) :
    ReturnsInHanded {} Try.checked os 20 .any (Rows.fnAddIntoSpec.pre6 enc Try.prog Try.f20 Rows.fnAddIntoRow.domain false) (Rows.fnAddIntoSpec.post enc Try.prog Try.f20 false true false false) := by
  refine returnsInHanded_of_change (C := Try.checked) own started (by kernel_rfl) Try.func20
    (ChangeSpec.witness6 (enc := enc) (C := Try.checked) false ⟨#[], #[.int .u8 0, .slice none 0 0, .slice none 0 0], []⟩ 8 (by kernel_rfl) (by kernel_rfl) (by kernel_rfl) (by kernel_rfl)) ?_
  intro W base args ds gs before hval0 hW _ _
  have hval : ∀ (j : Nat) t v, Try.f20.params[j]? = some t → args[j]? = some v → Value.okWide Try.prog W .any base t v := hval0
  have hW' := hW
  obtain ⟨p, q, hA0, _, rfl, _, _⟩ := hW
  have hA : DataW.TrodAll enc Try.prog W 0 (fun _ => true) true Try.f20.params.toList args.toList ds p := hA0
  rw [Try.params20] at hA hval
  obtain ⟨v0, vs0, d0, ds0, p0, q0, hargs, rfl, rfl, h0, r0⟩ := trodAll_cons hA
  obtain ⟨v1, vs1, d1, ds1, p1, q1, rfl, rfl, rfl, h1, r1⟩ := trodAll_cons r0
  obtain ⟨v2, vs2, d2, ds2, p2, q2, rfl, rfl, rfl, h2, r2⟩ := trodAll_cons r1
  obtain ⟨rfl, rfl, rfl⟩ := trodAll_nil r2
  obtain rfl : args = #[v0, v1, v2] := by cases args; simp_all
  obtain ⟨a0, rfl, rfl, rfl, w0⟩ := open_int Try.underlying5 (hval 0 5 v0 rfl rfl) h0
  obtain ⟨a1, n1, k1, rfl, s1⟩ := bytes_in h1 (okWide_slice Try.underlying22 (hval 1 22 v1 rfl rfl))
  obtain ⟨a2, n2, k2, rfl, s2⟩ := bytes_in h2 (okWide_slice Try.underlying22 (hval 2 22 v2 rfl rfl))
  clear hA0 hval0
  refine (walk2 a1 n1 k1 a2 n2 k2 a0 w0 W s1 s2).mono fun e W' ⟨he, hg⟩ => ?_
  subst he
  exact ⟨_, rfl, law_post laidOut hW' rfl rfl Try.underlying4 rfl (by kernel_rfl) hg⟩

theorem closed : joinedFacts Try.pinned.checked.prog 20 Try.f20 Rows.fnAddIntoSpec Rows.fnAddIntoRow = true := closed_of (by kernel_rfl)
theorem over : Rows.fnAddIntoRow.holds Try.pinned (OpenSpec.ofChange Rows.fnAddIntoSpec) :=
  OpenClaim.holds_of_wide 20 Try.f20 rfl rfl rfl rfl rfl rfl rfl ⟨rfl, rfl, rfl, rfl, rfl⟩ rfl rfl rfl rfl rfl (by kernel_rfl) Try.func20 closed
    (of_decide_eq_true (by kernel_rfl)) (by unfold Func.isWrapper; first | (rw [if_pos (by decide +kernel)]; kernel_rfl) | (rw [if_neg (by decide +kernel)]; exact ⟨rfl, rfl⟩))
    (fun os started H enc _ => lifted os started H enc)

/-- THE STATEMENT. -/
theorem proved : Rows.FnAddIntoSaid :=
  over
#print axioms proved
end Go.Proofs.Ytmepgkcijeobkaa.fnAddInto
