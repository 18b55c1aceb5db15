/-
  What FnSet says: a point that is set to another one stays when that one is doubled.
  Conditions: none.
-/
import Derived.Test.YtmepgkcijeobkaaRows
import Derived.Test.YtmepgkcijeobkaaFin
import Derived.Test.YtmepgkcijeobkaaRdaLaw0
import Derived.Test.YtmepgkcijeobkaaSum
import Derived.WalkKit
import Derived.WalkSpells
import Derived.Outline
import Derived.ProofKit
import Derived.OpenShut
namespace Go.Proofs.Ytmepgkcijeobkaa.fnSet
open Go Go.ChangeShapes Go.WideShapes Go.ChangeAt Go.RowKit Ecp
set_option linter.unusedSimpArgs false
set_option linter.unusedVariables false

set_option maxHeartbeats 4000000 in
set_option maxRecDepth 100000 in
theorem big0 (a0 : Option Addr) (n0 k0 : Nat) (a1 : Option Addr) (n1 k1 : Nat) (hn0 : (2147483647 : Int) < n0) (w : World)  :
    Calls Try.prog 12 #[.slice a0 n0 k0, .slice a1 n1 k1] w fun e w' => e = .returned (.bool true) ∧ Below w.heap.size w w' := by
  go_enter Try.func12, Try.ntmps12
  go_wp2_with (first | (first | (refine wpList_load_rowW rfl 26 _ rfl _ rfl _ _ _ _ (by (with_reducible first | assumption | (simp only [hsA, setRow_heap]; first | done | rfl) | (repeat (first | assumption | (refine heap_at _ _ _ ?_; simp only [hsA, setRow_heap]; done) | refine ext_row (Ext.al _ _) ?_ | refine ext_row (Ext.gr _ _) ?_ | refine ext_row (by assumption) ?_)))) Try.underlying26 rfl (inP _ _ _) ?_) | (refine wpList_load_partW rfl 26 _ rfl _ _ rfl _ _ _ (by (with_reducible first | assumption | (simp only [hsA, setRow_heap]; first | done | rfl) | (repeat (first | assumption | (refine heap_at _ _ _ ?_; simp only [hsA, setRow_heap]; done) | refine ext_row (Ext.al _ _) ?_ | refine ext_row (Ext.gr _ _) ?_ | refine ext_row (by assumption) ?_)))) _ (by first | with_reducible exact pc_x _ _ _ | with_reducible exact pc_y _ _ _ | with_reducible exact tc_x _ _ _ | with_reducible exact tc_y _ _ _ | with_reducible exact tc_z _ _ _) _ Try.underlying26 rfl (inP _ _ _) ?_) | (refine wpList_store_rowW rfl 26 _ _ rfl _ _ rfl rfl _ _ (by (with_reducible first | assumption | (simp only [hsA, setRow_heap]; first | done | rfl) | (repeat (first | assumption | (refine heap_at _ _ _ ?_; simp only [hsA, setRow_heap]; done) | refine ext_row (Ext.al _ _) ?_ | refine ext_row (Ext.gr _ _) ?_ | refine ext_row (by assumption) ?_)))) (inP _ _ _) (by simp only [ec_size, bc_size, pc_size, tc_size, ec_size, bc_size, pc_size, tc_size]; try rfl) (pc_one _ _ _) ?_; (try simp only [nmA]))))
  refine bodyPost_ret (v := .bool true) (by simp [results, Try.results12, go_sem]) rfl ⟨rfl, Ext.below (by (repeat (first | exact Ext.refl _ | assumption | exact hE6 .. | refine Ext.trans ?_ (Ext.al _ _) | refine Ext.trans ?_ (Ext.gr _ _) | refine Ext.trans ?_ (by with_reducible assumption) | refine Ext.setRow ?_ (by first | omega | (simp <;> omega)) _)))⟩
set_option maxHeartbeats 4000000 in
set_option maxRecDepth 100000 in
theorem big1 (a0 : Option Addr) (n0 k0 : Nat) (a1 : Option Addr) (n1 k1 : Nat) (hn0 : ¬ (2147483647 : Int) < n0) (hn1 : (2147483647 : Int) < n1) (w : World)  :
    Calls Try.prog 12 #[.slice a0 n0 k0, .slice a1 n1 k1] w fun e w' => e = .returned (.bool true) ∧ Below w.heap.size w w' := by
  go_enter Try.func12, Try.ntmps12
  go_wp2_with (first | (first | (refine wpList_load_rowW rfl 26 _ rfl _ rfl _ _ _ _ (by (with_reducible first | assumption | (simp only [hsA, setRow_heap]; first | done | rfl) | (repeat (first | assumption | (refine heap_at _ _ _ ?_; simp only [hsA, setRow_heap]; done) | refine ext_row (Ext.al _ _) ?_ | refine ext_row (Ext.gr _ _) ?_ | refine ext_row (by assumption) ?_)))) Try.underlying26 rfl (inP _ _ _) ?_) | (refine wpList_load_partW rfl 26 _ rfl _ _ rfl _ _ _ (by (with_reducible first | assumption | (simp only [hsA, setRow_heap]; first | done | rfl) | (repeat (first | assumption | (refine heap_at _ _ _ ?_; simp only [hsA, setRow_heap]; done) | refine ext_row (Ext.al _ _) ?_ | refine ext_row (Ext.gr _ _) ?_ | refine ext_row (by assumption) ?_)))) _ (by first | with_reducible exact pc_x _ _ _ | with_reducible exact pc_y _ _ _ | with_reducible exact tc_x _ _ _ | with_reducible exact tc_y _ _ _ | with_reducible exact tc_z _ _ _) _ Try.underlying26 rfl (inP _ _ _) ?_) | (refine wpList_store_rowW rfl 26 _ _ rfl _ _ rfl rfl _ _ (by (with_reducible first | assumption | (simp only [hsA, setRow_heap]; first | done | rfl) | (repeat (first | assumption | (refine heap_at _ _ _ ?_; simp only [hsA, setRow_heap]; done) | refine ext_row (Ext.al _ _) ?_ | refine ext_row (Ext.gr _ _) ?_ | refine ext_row (by assumption) ?_)))) (inP _ _ _) (by simp only [ec_size, bc_size, pc_size, tc_size, ec_size, bc_size, pc_size, tc_size]; try rfl) (pc_one _ _ _) ?_; (try simp only [nmA]))))
  refine bodyPost_ret (v := .bool true) (by simp [results, Try.results12, go_sem]) rfl ⟨rfl, Ext.below (by (repeat (first | exact Ext.refl _ | assumption | exact hE6 .. | refine Ext.trans ?_ (Ext.al _ _) | refine Ext.trans ?_ (Ext.gr _ _) | refine Ext.trans ?_ (by with_reducible assumption) | refine Ext.setRow ?_ (by first | omega | (simp <;> omega)) _)))⟩
set_option maxHeartbeats 4000000 in
set_option maxRecDepth 100000 in
theorem no0 (a0 : Option Addr) (n0 k0 : Nat) (a1 : Option Addr) (n1 k1 : Nat) (f0 : Bool) (X0 Y0 : Int) (f1 : Bool) (X1 Y1 : Int) (t1 : Bool) (hn0 : ¬ (2147483647 : Int) < n0) (hn1 : ¬ (2147483647 : Int) < n1) (w : World) (hR0 : ∀ w1, Ext w w1 → Calls Try.prog 22 #[.slice a0 n0 k0] w1 fun e w2 => e = .returned (.tuple #[.agg (pc f0 X0 Y0), .bool false]) ∧ Ext w1 w2) (hR1 : ∀ w1, Ext w w1 → Calls Try.prog 22 #[.slice a1 n1 k1] w1 fun e w2 => e = .returned (.tuple #[.agg (pc f1 X1 Y1), .bool t1]) ∧ Ext w1 w2) :
    Calls Try.prog 12 #[.slice a0 n0 k0, .slice a1 n1 k1] w fun e w' => e = .returned (.bool true) ∧ Below w.heap.size w w' := by
  have HR0 := Lib.hid hR0
  have HR1 := Lib.hid hR1
  clear hR0 hR1 
  go_enter Try.func12, Try.ntmps12
  go_wp2_with (first | (go_at_call 22; first | ((with_reducible refine (HR0.out _ (by (repeat (first | exact Ext.refl _ | assumption | exact hE6 .. | refine Ext.trans ?_ (Ext.al _ _) | refine Ext.trans ?_ (Ext.gr _ _) | refine Ext.trans ?_ (by with_reducible assumption) | refine Ext.setRow ?_ (by first | omega | (simp <;> omega)) _)))).mono ?_); rintro e w' ⟨rfl, g1, rfl⟩) | ((with_reducible refine (HR1.out _ (by (repeat (first | exact Ext.refl _ | assumption | exact hE6 .. | refine Ext.trans ?_ (Ext.al _ _) | refine Ext.trans ?_ (Ext.gr _ _) | refine Ext.trans ?_ (by with_reducible assumption) | refine Ext.setRow ?_ (by first | omega | (simp <;> omega)) _)))).mono ?_); rintro e w' ⟨rfl, g2, rfl⟩) | fail) | (first | (refine wpList_load_rowW rfl 26 _ rfl _ rfl _ _ _ _ (by (with_reducible first | assumption | (simp only [hsA, setRow_heap]; first | done | rfl) | (repeat (first | assumption | (refine heap_at _ _ _ ?_; simp only [hsA, setRow_heap]; done) | refine ext_row (Ext.al _ _) ?_ | refine ext_row (Ext.gr _ _) ?_ | refine ext_row (by assumption) ?_)))) Try.underlying26 rfl (inP _ _ _) ?_) | (refine wpList_load_partW rfl 26 _ rfl _ _ rfl _ _ _ (by (with_reducible first | assumption | (simp only [hsA, setRow_heap]; first | done | rfl) | (repeat (first | assumption | (refine heap_at _ _ _ ?_; simp only [hsA, setRow_heap]; done) | refine ext_row (Ext.al _ _) ?_ | refine ext_row (Ext.gr _ _) ?_ | refine ext_row (by assumption) ?_)))) _ (by first | with_reducible exact pc_x _ _ _ | with_reducible exact pc_y _ _ _ | with_reducible exact tc_x _ _ _ | with_reducible exact tc_y _ _ _ | with_reducible exact tc_z _ _ _) _ Try.underlying26 rfl (inP _ _ _) ?_) | (refine wpList_store_rowW rfl 26 _ _ rfl _ _ rfl rfl _ _ (by (with_reducible first | assumption | (simp only [hsA, setRow_heap]; first | done | rfl) | (repeat (first | assumption | (refine heap_at _ _ _ ?_; simp only [hsA, setRow_heap]; done) | refine ext_row (Ext.al _ _) ?_ | refine ext_row (Ext.gr _ _) ?_ | refine ext_row (by assumption) ?_)))) (inP _ _ _) (by simp only [ec_size, bc_size, pc_size, tc_size, ec_size, bc_size, pc_size, tc_size]; try rfl) (pc_one _ _ _) ?_; (try simp only [nmA]))))
  refine bodyPost_ret (v := .bool true) (by simp [results, Try.results12, go_sem]) rfl ⟨rfl, Ext.below (by (repeat (first | exact Ext.refl _ | assumption | exact hE6 .. | refine Ext.trans ?_ (Ext.al _ _) | refine Ext.trans ?_ (Ext.gr _ _) | refine Ext.trans ?_ (by with_reducible assumption) | refine Ext.setRow ?_ (by first | omega | (simp <;> omega)) _)))⟩
set_option maxHeartbeats 4000000 in
set_option maxRecDepth 100000 in
theorem no1 (a0 : Option Addr) (n0 k0 : Nat) (a1 : Option Addr) (n1 k1 : Nat) (f0 : Bool) (X0 Y0 : Int) (f1 : Bool) (X1 Y1 : Int) (hn0 : ¬ (2147483647 : Int) < n0) (hn1 : ¬ (2147483647 : Int) < n1) (w : World) (hR0 : ∀ w1, Ext w w1 → Calls Try.prog 22 #[.slice a0 n0 k0] w1 fun e w2 => e = .returned (.tuple #[.agg (pc f0 X0 Y0), .bool true]) ∧ Ext w1 w2) (hR1 : ∀ w1, Ext w w1 → Calls Try.prog 22 #[.slice a1 n1 k1] w1 fun e w2 => e = .returned (.tuple #[.agg (pc f1 X1 Y1), .bool false]) ∧ Ext w1 w2) :
    Calls Try.prog 12 #[.slice a0 n0 k0, .slice a1 n1 k1] w fun e w' => e = .returned (.bool true) ∧ Below w.heap.size w w' := by
  have HR0 := Lib.hid hR0
  have HR1 := Lib.hid hR1
  clear hR0 hR1 
  go_enter Try.func12, Try.ntmps12
  go_wp2_with (first | (go_at_call 22; first | ((with_reducible refine (HR0.out _ (by (repeat (first | exact Ext.refl _ | assumption | exact hE6 .. | refine Ext.trans ?_ (Ext.al _ _) | refine Ext.trans ?_ (Ext.gr _ _) | refine Ext.trans ?_ (by with_reducible assumption) | refine Ext.setRow ?_ (by first | omega | (simp <;> omega)) _)))).mono ?_); rintro e w' ⟨rfl, g1, rfl⟩) | ((with_reducible refine (HR1.out _ (by (repeat (first | exact Ext.refl _ | assumption | exact hE6 .. | refine Ext.trans ?_ (Ext.al _ _) | refine Ext.trans ?_ (Ext.gr _ _) | refine Ext.trans ?_ (by with_reducible assumption) | refine Ext.setRow ?_ (by first | omega | (simp <;> omega)) _)))).mono ?_); rintro e w' ⟨rfl, g2, rfl⟩) | fail) | (first | (refine wpList_load_rowW rfl 26 _ rfl _ rfl _ _ _ _ (by (with_reducible first | assumption | (simp only [hsA, setRow_heap]; first | done | rfl) | (repeat (first | assumption | (refine heap_at _ _ _ ?_; simp only [hsA, setRow_heap]; done) | refine ext_row (Ext.al _ _) ?_ | refine ext_row (Ext.gr _ _) ?_ | refine ext_row (by assumption) ?_)))) Try.underlying26 rfl (inP _ _ _) ?_) | (refine wpList_load_partW rfl 26 _ rfl _ _ rfl _ _ _ (by (with_reducible first | assumption | (simp only [hsA, setRow_heap]; first | done | rfl) | (repeat (first | assumption | (refine heap_at _ _ _ ?_; simp only [hsA, setRow_heap]; done) | refine ext_row (Ext.al _ _) ?_ | refine ext_row (Ext.gr _ _) ?_ | refine ext_row (by assumption) ?_)))) _ (by first | with_reducible exact pc_x _ _ _ | with_reducible exact pc_y _ _ _ | with_reducible exact tc_x _ _ _ | with_reducible exact tc_y _ _ _ | with_reducible exact tc_z _ _ _) _ Try.underlying26 rfl (inP _ _ _) ?_) | (refine wpList_store_rowW rfl 26 _ _ rfl _ _ rfl rfl _ _ (by (with_reducible first | assumption | (simp only [hsA, setRow_heap]; first | done | rfl) | (repeat (first | assumption | (refine heap_at _ _ _ ?_; simp only [hsA, setRow_heap]; done) | refine ext_row (Ext.al _ _) ?_ | refine ext_row (Ext.gr _ _) ?_ | refine ext_row (by assumption) ?_)))) (inP _ _ _) (by simp only [ec_size, bc_size, pc_size, tc_size, ec_size, bc_size, pc_size, tc_size]; try rfl) (pc_one _ _ _) ?_; (try simp only [nmA]))))
  refine bodyPost_ret (v := .bool true) (by simp [results, Try.results12, go_sem]) rfl ⟨rfl, Ext.below (by (repeat (first | exact Ext.refl _ | assumption | exact hE6 .. | refine Ext.trans ?_ (Ext.al _ _) | refine Ext.trans ?_ (Ext.gr _ _) | refine Ext.trans ?_ (by with_reducible assumption) | refine Ext.setRow ?_ (by first | omega | (simp <;> omega)) _)))⟩
set_option maxHeartbeats 4000000 in
set_option maxRecDepth 100000 in
theorem good (a0 : Option Addr) (n0 k0 : Nat) (a1 : Option Addr) (n1 k1 : Nat) (f0 : Bool) (X0 Y0 : Int) (f1 : Bool) (X1 Y1 : Int) (f2 : Bool) (X2 Y2 : Int) (N1 : Nat) (L1 : List Int) (N2 : Nat) (L2 : List Int) (hn0 : ¬ (2147483647 : Int) < n0) (hn1 : ¬ (2147483647 : Int) < n1) (w : World) (hR0 : ∀ w1, Ext w w1 → Calls Try.prog 22 #[.slice a0 n0 k0] w1 fun e w2 => e = .returned (.tuple #[.agg (pc f0 X0 Y0), .bool true]) ∧ Ext w1 w2) (hR1 : ∀ w1, Ext w w1 → Calls Try.prog 22 #[.slice a1 n1 k1] w1 fun e w2 => e = .returned (.tuple #[.agg (pc f1 X1 Y1), .bool true]) ∧ Ext w1 w2) (hA : ∀  w1, Ext w w1 → Calls Try.prog 41 #[.slice a0 n0 k0, .slice a1 n1 k1] w1 fun e w2 => ∃ g0 g1, e = .returned (.tuple #[.slice (some ⟨g0, 0, none⟩) N1 65, .slice (some ⟨g1, 0, none⟩) N2 65, .bool true]) ∧ g0 < w2.heap.size ∧ g1 < w2.heap.size ∧ Ext w1 w2 ∧ Held .u8 w2 g0 0 L1 ∧ Held .u8 w2 g1 0 L2) (hS : ∀ w1, Calls Try.prog 40 #[.agg (pc f1 X1 Y1), .agg (pc f1 X1 Y1)] w1 fun e w2 => e = .returned (.agg (pc f2 X2 Y2)) ∧ Ext w1 w2) (hT : ∀ x0 k0 w1, x0 < w1.heap.size → Held .u8 w1 x0 0 L1 → Calls Try.prog 29 #[.slice (some ⟨x0, 0, none⟩) N1 k0, .agg (pc f1 X1 Y1)] w1 fun e w2 => e = .returned (.bool true) ∧ Ext w1 w2) (hU : ∀ x0 k0 w1, x0 < w1.heap.size → Held .u8 w1 x0 0 L2 → Calls Try.prog 29 #[.slice (some ⟨x0, 0, none⟩) N2 k0, .agg (pc f2 X2 Y2)] w1 fun e w2 => e = .returned (.bool true) ∧ Ext w1 w2) :
    Calls Try.prog 12 #[.slice a0 n0 k0, .slice a1 n1 k1] w fun e w' => e = .returned (.bool true) ∧ Below w.heap.size w w' := by
  have HR0 := Lib.hid hR0
  have HR1 := Lib.hid hR1
  have HA := Lib.hid hA
  have HS := Lib.hid hS
  have HT := Lib.hid hT
  have HU := Lib.hid hU
  clear hR0 hR1 hA hS hT hU 
  go_enter Try.func12, Try.ntmps12
  go_wp2_with (first | (go_at_call 22; first | ((with_reducible refine (HR0.out _ (by (repeat (first | exact Ext.refl _ | assumption | exact hE6 .. | refine Ext.trans ?_ (Ext.al _ _) | refine Ext.trans ?_ (Ext.gr _ _) | refine Ext.trans ?_ (by with_reducible assumption) | refine Ext.setRow ?_ (by first | omega | (simp <;> omega)) _)))).mono ?_); rintro e w' ⟨rfl, g1, rfl⟩) | ((with_reducible refine (HR1.out _ (by (repeat (first | exact Ext.refl _ | assumption | exact hE6 .. | refine Ext.trans ?_ (Ext.al _ _) | refine Ext.trans ?_ (Ext.gr _ _) | refine Ext.trans ?_ (by with_reducible assumption) | refine Ext.setRow ?_ (by first | omega | (simp <;> omega)) _)))).mono ?_); rintro e w' ⟨rfl, g2, rfl⟩) | fail) | (go_at_call 41; first | ((with_reducible refine (HA.out _ (by (repeat (first | exact Ext.refl _ | assumption | exact hE6 .. | refine Ext.trans ?_ (Ext.al _ _) | refine Ext.trans ?_ (Ext.gr _ _) | refine Ext.trans ?_ (by with_reducible assumption) | refine Ext.setRow ?_ (by first | omega | (simp <;> omega)) _))) ).mono ?_); rintro e w' ⟨b3_0, b3_1, rfl, hl3_0, hl3_1, ⟨g3, rfl⟩, hh3_0, hh3_1⟩) | fail) | (go_at_call 40; first | ((with_reducible refine (HS.out _).mono ?_); rintro e w' ⟨rfl, g4, rfl⟩) | fail) | (go_at_call 29; first | ((with_reducible refine (HT.out _ _ _ (by first | exact hl3_0 | exact Ext.lt (by (repeat (first | exact Ext.refl _ | assumption | exact hE6 .. | refine Ext.trans ?_ (Ext.al _ _) | refine Ext.trans ?_ (Ext.gr _ _) | refine Ext.trans ?_ (by with_reducible assumption) | refine Ext.setRow ?_ (by first | omega | (simp <;> omega)) _))) hl3_0 | exact hl3_1 | exact Ext.lt (by (repeat (first | exact Ext.refl _ | assumption | exact hE6 .. | refine Ext.trans ?_ (Ext.al _ _) | refine Ext.trans ?_ (Ext.gr _ _) | refine Ext.trans ?_ (by with_reducible assumption) | refine Ext.setRow ?_ (by first | omega | (simp <;> omega)) _))) hl3_1) (by first | exact hh3_0 | exact Ext.held (by (repeat (first | exact Ext.refl _ | assumption | exact hE6 .. | refine Ext.trans ?_ (Ext.al _ _) | refine Ext.trans ?_ (Ext.gr _ _) | refine Ext.trans ?_ (by with_reducible assumption) | refine Ext.setRow ?_ (by first | omega | (simp <;> omega)) _))) hl3_0 hh3_0 | exact hh3_1 | exact Ext.held (by (repeat (first | exact Ext.refl _ | assumption | exact hE6 .. | refine Ext.trans ?_ (Ext.al _ _) | refine Ext.trans ?_ (Ext.gr _ _) | refine Ext.trans ?_ (by with_reducible assumption) | refine Ext.setRow ?_ (by first | omega | (simp <;> omega)) _))) hl3_1 hh3_1)).mono ?_); rintro e w' ⟨rfl, g5, rfl⟩) | ((with_reducible refine (HU.out _ _ _ (by first | exact hl3_0 | exact Ext.lt (by (repeat (first | exact Ext.refl _ | assumption | exact hE6 .. | refine Ext.trans ?_ (Ext.al _ _) | refine Ext.trans ?_ (Ext.gr _ _) | refine Ext.trans ?_ (by with_reducible assumption) | refine Ext.setRow ?_ (by first | omega | (simp <;> omega)) _))) hl3_0 | exact hl3_1 | exact Ext.lt (by (repeat (first | exact Ext.refl _ | assumption | exact hE6 .. | refine Ext.trans ?_ (Ext.al _ _) | refine Ext.trans ?_ (Ext.gr _ _) | refine Ext.trans ?_ (by with_reducible assumption) | refine Ext.setRow ?_ (by first | omega | (simp <;> omega)) _))) hl3_1) (by first | exact hh3_0 | exact Ext.held (by (repeat (first | exact Ext.refl _ | assumption | exact hE6 .. | refine Ext.trans ?_ (Ext.al _ _) | refine Ext.trans ?_ (Ext.gr _ _) | refine Ext.trans ?_ (by with_reducible assumption) | refine Ext.setRow ?_ (by first | omega | (simp <;> omega)) _))) hl3_0 hh3_0 | exact hh3_1 | exact Ext.held (by (repeat (first | exact Ext.refl _ | assumption | exact hE6 .. | refine Ext.trans ?_ (Ext.al _ _) | refine Ext.trans ?_ (Ext.gr _ _) | refine Ext.trans ?_ (by with_reducible assumption) | refine Ext.setRow ?_ (by first | omega | (simp <;> omega)) _))) hl3_1 hh3_1)).mono ?_); rintro e w' ⟨rfl, g6, rfl⟩) | fail) | (first | (refine wpList_load_rowW rfl 26 _ rfl _ rfl _ _ _ _ (by (with_reducible first | assumption | (simp only [hsA, setRow_heap]; first | done | rfl) | (repeat (first | assumption | (refine heap_at _ _ _ ?_; simp only [hsA, setRow_heap]; done) | refine ext_row (Ext.al _ _) ?_ | refine ext_row (Ext.gr _ _) ?_ | refine ext_row (by assumption) ?_)))) Try.underlying26 rfl (inP _ _ _) ?_) | (refine wpList_load_partW rfl 26 _ rfl _ _ rfl _ _ _ (by (with_reducible first | assumption | (simp only [hsA, setRow_heap]; first | done | rfl) | (repeat (first | assumption | (refine heap_at _ _ _ ?_; simp only [hsA, setRow_heap]; done) | refine ext_row (Ext.al _ _) ?_ | refine ext_row (Ext.gr _ _) ?_ | refine ext_row (by assumption) ?_)))) _ (by first | with_reducible exact pc_x _ _ _ | with_reducible exact pc_y _ _ _ | with_reducible exact tc_x _ _ _ | with_reducible exact tc_y _ _ _ | with_reducible exact tc_z _ _ _) _ Try.underlying26 rfl (inP _ _ _) ?_) | (refine wpList_store_rowW rfl 26 _ _ rfl _ _ rfl rfl _ _ (by (with_reducible first | assumption | (simp only [hsA, setRow_heap]; first | done | rfl) | (repeat (first | assumption | (refine heap_at _ _ _ ?_; simp only [hsA, setRow_heap]; done) | refine ext_row (Ext.al _ _) ?_ | refine ext_row (Ext.gr _ _) ?_ | refine ext_row (by assumption) ?_)))) (inP _ _ _) (by simp only [ec_size, bc_size, pc_size, tc_size, ec_size, bc_size, pc_size, tc_size]; try rfl) (pc_one _ _ _) ?_; (try simp only [nmA]))))
  refine bodyPost_ret (v := .bool true) (by simp [results, Try.results12, go_sem]) rfl ⟨rfl, Ext.below (by (repeat (first | exact Ext.refl _ | assumption | exact hE6 .. | refine Ext.trans ?_ (Ext.al _ _) | refine Ext.trans ?_ (Ext.gr _ _) | refine Ext.trans ?_ (by with_reducible assumption) | refine Ext.setRow ?_ (by first | omega | (simp <;> omega)) _)))⟩
theorem walk (a0 : Option Addr) (n0 k0 : Nat) (a1 : Option Addr) (n1 k1 : Nat) (w : World) (hs0 : (2147483647 : Int) < n0 ∨ Bd w a0 n0 k0 ∨ ∃ P, Gd w a0 n0 k0 P) (hs1 : (2147483647 : Int) < n1 ∨ Bd w a1 n1 k1 ∨ ∃ P, Gd w a1 n1 k1 P) :
    Calls Try.prog 12 #[.slice a0 n0 k0, .slice a1 n1 k1] w fun e w' => e = .returned (.bool true) ∧ Below w.heap.size w w' := by
  rcases hs0 with h0 | h0 | ⟨P0, h0⟩
  · exact big0 a0 n0 k0 a1 n1 k1  h0 w
  · obtain ⟨f0, X0, Y0, hR0⟩ := h0.read
    rcases hs1 with h1 | h1 | ⟨P1, h1⟩
    · exact big1 a0 n0 k0 a1 n1 k1 h0.small h1 w
    · obtain ⟨f1, X1, Y1, hR1⟩ := h1.read
      exact no0 a0 n0 k0 a1 n1 k1 f0 X0 Y0 f1 X1 Y1 _ h0.small h1.small w hR0 hR1
    · obtain ⟨f1, X1, Y1, hpv1⟩ := pv_row P1
      have hR1 := h1.read
      rw [hpv1] at hR1
      exact no0 a0 n0 k0 a1 n1 k1 f0 X0 Y0 f1 X1 Y1 _ h0.small h1.small w hR0 hR1
  · rcases hs1 with h1 | h1 | ⟨P1, h1⟩
    · exact big1 a0 n0 k0 a1 n1 k1 h0.small h1 w
    · obtain ⟨f0, X0, Y0, hpv0⟩ := pv_row P0
      have hR0 := h0.read
      rw [hpv0] at hR0
      obtain ⟨f1, X1, Y1, hR1⟩ := h1.read
      exact no1 a0 n0 k0 a1 n1 k1 f0 X0 Y0 f1 X1 Y1 h0.small h1.small w hR0 hR1
    · have hsm0 := h0.small
      have hon0 := h0.on
      have hR0 := h0.read
      obtain ⟨f0, X0, Y0, hpv0⟩ := pv_row P0
      rw [hpv0] at hR0
      obtain ⟨c0, o0, l0, rfl, rfl, p0, q0, r0, s0⟩ := h0
      have hsm1 := h1.small
      have hon1 := h1.on
      have hR1 := h1.read
      obtain ⟨f1, X1, Y1, hpv1⟩ := pv_row P1
      rw [hpv1] at hR1
      obtain ⟨c1, o1, l1, rfl, rfl, p1, q1, r1, s1⟩ := h1
      obtain ⟨f2, X2, Y2, hpv2⟩ := pv_row (psum P1 P1)
      have hS := Sum_any P1 P1
      have hT := fun g k w' h1 h2 => is_self g k P1 w' h1 h2
      have hU := fun g k w' h1 h2 => is_self g k (psum P1 P1) w' h1 h2
      rw [hpv1, hpv2] at hS
      rw [hpv1] at hT
      rw [hpv2] at hU
      exact good _ _ _ _ _ _ f0 X0 Y0 f1 X1 Y1 f2 X2 Y2 _ _ _ _ hsm0 hsm1 w hR0 hR1 (fun w' hE => iSet_any c0 o0 k0 c1 o1 k1 l0 l1 P0 P1 w' (hE.lt p0) (hE.held p0 q0) s0 (hE.lt p1) (hE.held p1 q1) s1) hS hT hU
theorem own : ownKnob Try.prog.godebug = none := by kernel_rfl
theorem laidOut : laidOutB Try.prog = true := by kernel_rfl

set_option maxRecDepth 100000 in
theorem lifted (os : Os) (started : os.Started) (H : Type) (enc : TypeId × Value → H) :
    ReturnsInHanded {} Try.checked os 12 .any (Rows.fnSetSpec.pre6 enc Try.prog Try.f12 Rows.fnSetRow.domain false) (Rows.fnSetSpec.post enc Try.prog Try.f12 false true false false) := by
  refine returnsInHanded_of_change (C := Try.checked) own started (by kernel_rfl) Try.func12
    (ChangeSpec.witness6 (enc := enc) (C := Try.checked) false ⟨#[], #[.slice none 0 0, .slice none 0 0], []⟩ 8 (by kernel_rfl) (by kernel_rfl) (by kernel_rfl) (by kernel_rfl)) ?_
  intro W base args ds gs before hval0 hW _ _
  have hval : ∀ (j : Nat) t v, Try.f12.params[j]? = some t → args[j]? = some v → Value.okWide Try.prog W .any base t v := hval0
  have hW' := hW
  obtain ⟨p, q, hA0, _, rfl, _, _⟩ := hW
  have hA : DataW.TrodAll enc Try.prog W 0 (fun _ => true) true Try.f12.params.toList args.toList ds p := hA0
  rw [Try.params12] at hA hval
  obtain ⟨v0, vs0, d0, ds0, p0, q0, hargs, rfl, rfl, h0, r0⟩ := trodAll_cons hA
  obtain ⟨v1, vs1, d1, ds1, p1, q1, rfl, rfl, rfl, h1, r1⟩ := trodAll_cons r0
  obtain ⟨rfl, rfl, rfl⟩ := trodAll_nil r1
  obtain rfl : args = #[v0, v1] := by cases args; simp_all
  obtain ⟨a0, n0, k0, rfl, s0⟩ := bytes_in h0 (okWide_slice Try.underlying22 (hval 0 22 v0 rfl rfl))
  obtain ⟨a1, n1, k1, rfl, s1⟩ := bytes_in h1 (okWide_slice Try.underlying22 (hval 1 22 v1 rfl rfl))
  clear hA0 hval0
  refine (walk a0 n0 k0 a1 n1 k1 W s0 s1).mono fun e W' ⟨he, hg⟩ => ?_
  subst he
  exact ⟨_, rfl, law_post laidOut hW' rfl rfl Try.underlying4 rfl (by kernel_rfl) hg⟩

theorem closed : joinedFacts Try.pinned.checked.prog 12 Try.f12 Rows.fnSetSpec Rows.fnSetRow = true := closed_of (by kernel_rfl)
theorem over : Rows.fnSetRow.holds Try.pinned (OpenSpec.ofChange Rows.fnSetSpec) :=
  OpenClaim.holds_of_wide 12 Try.f12 rfl rfl rfl rfl rfl rfl rfl ⟨rfl, rfl, rfl, rfl, rfl⟩ rfl rfl rfl rfl rfl (by kernel_rfl) Try.func12 closed
    (of_decide_eq_true (by kernel_rfl)) (by unfold Func.isWrapper; first | (rw [if_pos (by decide +kernel)]; kernel_rfl) | (rw [if_neg (by decide +kernel)]; exact ⟨rfl, rfl⟩))
    (fun os started H enc _ => lifted os started H enc)

/-- THE STATEMENT. -/
theorem proved : Rows.FnSetSaid :=
  over
#print axioms proved
end Go.Proofs.Ytmepgkcijeobkaa.fnSet
