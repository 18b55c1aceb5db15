/-
  What FnKept says: bytes that are no point leave the point as it was.
  Conditions: none.
-/
import Derived.Test.YtmepgkcijeobkaaRows
import Derived.Test.YtmepgkcijeobkaaFin
import Derived.Test.YtmepgkcijeobkaaRdaLaw0
import Derived.WalkKit
import Derived.WalkSpells
import Derived.Outline
import Derived.ProofKit
import Derived.OpenShut
namespace Go.Proofs.Ytmepgkcijeobkaa.fnKept
open Go Go.ChangeShapes Go.WideShapes Go.ChangeAt Go.RowKit Ecp
set_option linter.unusedSimpArgs false
set_option linter.unusedVariables false

set_option maxHeartbeats 4000000 in
set_option maxRecDepth 100000 in
theorem big0 (a0 : Option Addr) (n0 k0 : Nat) (a1 : Option Addr) (n1 k1 : Nat) (hn0 : (2147483647 : Int) < n0) (w : World)  :
    Calls Try.prog 5 #[.slice a0 n0 k0, .slice a1 n1 k1] w fun e w' => e = .returned (.bool true) ∧ Below w.heap.size w w' := by
  go_enter Try.func5, Try.ntmps5
  go_wp2_with (first | (first | (refine wpList_load_rowW rfl 26 _ rfl _ rfl _ _ _ _ (by (with_reducible first | assumption | (simp only [hsA, setRow_heap]; first | done | rfl) | (repeat (first | assumption | (refine heap_at _ _ _ ?_; simp only [hsA, setRow_heap]; done) | refine ext_row (Ext.al _ _) ?_ | refine ext_row (Ext.gr _ _) ?_ | refine ext_row (by assumption) ?_)))) Try.underlying26 rfl (inP _ _ _) ?_) | (refine wpList_load_partW rfl 26 _ rfl _ _ rfl _ _ _ (by (with_reducible first | assumption | (simp only [hsA, setRow_heap]; first | done | rfl) | (repeat (first | assumption | (refine heap_at _ _ _ ?_; simp only [hsA, setRow_heap]; done) | refine ext_row (Ext.al _ _) ?_ | refine ext_row (Ext.gr _ _) ?_ | refine ext_row (by assumption) ?_)))) _ (by first | with_reducible exact pc_x _ _ _ | with_reducible exact pc_y _ _ _ | with_reducible exact tc_x _ _ _ | with_reducible exact tc_y _ _ _ | with_reducible exact tc_z _ _ _) _ Try.underlying26 rfl (inP _ _ _) ?_) | (refine wpList_store_rowW rfl 26 _ _ rfl _ _ rfl rfl _ _ (by (with_reducible first | assumption | (simp only [hsA, setRow_heap]; first | done | rfl) | (repeat (first | assumption | (refine heap_at _ _ _ ?_; simp only [hsA, setRow_heap]; done) | refine ext_row (Ext.al _ _) ?_ | refine ext_row (Ext.gr _ _) ?_ | refine ext_row (by assumption) ?_)))) (inP _ _ _) (by simp only [ec_size, bc_size, pc_size, tc_size, ec_size, bc_size, pc_size, tc_size]; try rfl) (pc_one _ _ _) ?_; (try simp only [nmA]))))
  refine bodyPost_ret (v := .bool true) (by simp [results, Try.results5, go_sem]) rfl ⟨rfl, Ext.below (by (repeat (first | exact Ext.refl _ | assumption | exact hE6 .. | refine Ext.trans ?_ (Ext.al _ _) | refine Ext.trans ?_ (Ext.gr _ _) | refine Ext.trans ?_ (by with_reducible assumption) | refine Ext.setRow ?_ (by first | omega | (simp <;> omega)) _)))⟩
set_option maxHeartbeats 4000000 in
set_option maxRecDepth 100000 in
theorem big1 (a0 : Option Addr) (n0 k0 : Nat) (a1 : Option Addr) (n1 k1 : Nat) (hn0 : ¬ (2147483647 : Int) < n0) (hn1 : (2147483647 : Int) < n1) (w : World)  :
    Calls Try.prog 5 #[.slice a0 n0 k0, .slice a1 n1 k1] w fun e w' => e = .returned (.bool true) ∧ Below w.heap.size w w' := by
  go_enter Try.func5, Try.ntmps5
  go_wp2_with (first | (first | (refine wpList_load_rowW rfl 26 _ rfl _ rfl _ _ _ _ (by (with_reducible first | assumption | (simp only [hsA, setRow_heap]; first | done | rfl) | (repeat (first | assumption | (refine heap_at _ _ _ ?_; simp only [hsA, setRow_heap]; done) | refine ext_row (Ext.al _ _) ?_ | refine ext_row (Ext.gr _ _) ?_ | refine ext_row (by assumption) ?_)))) Try.underlying26 rfl (inP _ _ _) ?_) | (refine wpList_load_partW rfl 26 _ rfl _ _ rfl _ _ _ (by (with_reducible first | assumption | (simp only [hsA, setRow_heap]; first | done | rfl) | (repeat (first | assumption | (refine heap_at _ _ _ ?_; simp only [hsA, setRow_heap]; done) | refine ext_row (Ext.al _ _) ?_ | refine ext_row (Ext.gr _ _) ?_ | refine ext_row (by assumption) ?_)))) _ (by first | with_reducible exact pc_x _ _ _ | with_reducible exact pc_y _ _ _ | with_reducible exact tc_x _ _ _ | with_reducible exact tc_y _ _ _ | with_reducible exact tc_z _ _ _) _ Try.underlying26 rfl (inP _ _ _) ?_) | (refine wpList_store_rowW rfl 26 _ _ rfl _ _ rfl rfl _ _ (by (with_reducible first | assumption | (simp only [hsA, setRow_heap]; first | done | rfl) | (repeat (first | assumption | (refine heap_at _ _ _ ?_; simp only [hsA, setRow_heap]; done) | refine ext_row (Ext.al _ _) ?_ | refine ext_row (Ext.gr _ _) ?_ | refine ext_row (by assumption) ?_)))) (inP _ _ _) (by simp only [ec_size, bc_size, pc_size, tc_size, ec_size, bc_size, pc_size, tc_size]; try rfl) (pc_one _ _ _) ?_; (try simp only [nmA]))))
  refine bodyPost_ret (v := .bool true) (by simp [results, Try.results5, go_sem]) rfl ⟨rfl, Ext.below (by (repeat (first | exact Ext.refl _ | assumption | exact hE6 .. | refine Ext.trans ?_ (Ext.al _ _) | refine Ext.trans ?_ (Ext.gr _ _) | refine Ext.trans ?_ (by with_reducible assumption) | refine Ext.setRow ?_ (by first | omega | (simp <;> omega)) _)))⟩
set_option maxHeartbeats 4000000 in
set_option maxRecDepth 100000 in
theorem no0 (a0 : Option Addr) (n0 k0 : Nat) (a1 : Option Addr) (n1 k1 : Nat) (f0 : Bool) (X0 Y0 : Int) (hn0 : ¬ (2147483647 : Int) < n0) (hn1 : ¬ (2147483647 : Int) < n1) (w : World) (hR0 : ∀ w1, Ext w w1 → Calls Try.prog 22 #[.slice a0 n0 k0] w1 fun e w2 => e = .returned (.tuple #[.agg (pc f0 X0 Y0), .bool false]) ∧ Ext w1 w2) :
    Calls Try.prog 5 #[.slice a0 n0 k0, .slice a1 n1 k1] w fun e w' => e = .returned (.bool true) ∧ Below w.heap.size w w' := by
  have HR0 := Lib.hid hR0
  clear hR0 
  go_enter Try.func5, Try.ntmps5
  go_wp2_with (first | (go_at_call 22; first | ((with_reducible refine (HR0.out _ (by (repeat (first | exact Ext.refl _ | assumption | exact hE6 .. | refine Ext.trans ?_ (Ext.al _ _) | refine Ext.trans ?_ (Ext.gr _ _) | refine Ext.trans ?_ (by with_reducible assumption) | refine Ext.setRow ?_ (by first | omega | (simp <;> omega)) _)))).mono ?_); rintro e w' ⟨rfl, g1, rfl⟩) | fail) | (first | (refine wpList_load_rowW rfl 26 _ rfl _ rfl _ _ _ _ (by (with_reducible first | assumption | (simp only [hsA, setRow_heap]; first | done | rfl) | (repeat (first | assumption | (refine heap_at _ _ _ ?_; simp only [hsA, setRow_heap]; done) | refine ext_row (Ext.al _ _) ?_ | refine ext_row (Ext.gr _ _) ?_ | refine ext_row (by assumption) ?_)))) Try.underlying26 rfl (inP _ _ _) ?_) | (refine wpList_load_partW rfl 26 _ rfl _ _ rfl _ _ _ (by (with_reducible first | assumption | (simp only [hsA, setRow_heap]; first | done | rfl) | (repeat (first | assumption | (refine heap_at _ _ _ ?_; simp only [hsA, setRow_heap]; done) | refine ext_row (Ext.al _ _) ?_ | refine ext_row (Ext.gr _ _) ?_ | refine ext_row (by assumption) ?_)))) _ (by first | with_reducible exact pc_x _ _ _ | with_reducible exact pc_y _ _ _ | with_reducible exact tc_x _ _ _ | with_reducible exact tc_y _ _ _ | with_reducible exact tc_z _ _ _) _ Try.underlying26 rfl (inP _ _ _) ?_) | (refine wpList_store_rowW rfl 26 _ _ rfl _ _ rfl rfl _ _ (by (with_reducible first | assumption | (simp only [hsA, setRow_heap]; first | done | rfl) | (repeat (first | assumption | (refine heap_at _ _ _ ?_; simp only [hsA, setRow_heap]; done) | refine ext_row (Ext.al _ _) ?_ | refine ext_row (Ext.gr _ _) ?_ | refine ext_row (by assumption) ?_)))) (inP _ _ _) (by simp only [ec_size, bc_size, pc_size, tc_size, ec_size, bc_size, pc_size, tc_size]; try rfl) (pc_one _ _ _) ?_; (try simp only [nmA]))))
  refine bodyPost_ret (v := .bool true) (by simp [results, Try.results5, go_sem]) rfl ⟨rfl, Ext.below (by (repeat (first | exact Ext.refl _ | assumption | exact hE6 .. | refine Ext.trans ?_ (Ext.al _ _) | refine Ext.trans ?_ (Ext.gr _ _) | refine Ext.trans ?_ (by with_reducible assumption) | refine Ext.setRow ?_ (by first | omega | (simp <;> omega)) _)))⟩
set_option maxHeartbeats 4000000 in
set_option maxRecDepth 100000 in
theorem good (a0 : Option Addr) (n0 k0 : Nat) (a1 : Option Addr) (n1 k1 : Nat) (f0 : Bool) (X0 Y0 : Int) (f1 : Bool) (X1 Y1 : Int) (N2 : Nat) (L2 : List Int) (hn0 : ¬ (2147483647 : Int) < n0) (hn1 : ¬ (2147483647 : Int) < n1) (w : World) (hR0 : ∀ w1, Ext w w1 → Calls Try.prog 22 #[.slice a0 n0 k0] w1 fun e w2 => e = .returned (.tuple #[.agg (pc f0 X0 Y0), .bool true]) ∧ Ext w1 w2) (hR1 : ∀ w1, Ext w w1 → Calls Try.prog 22 #[.slice a1 n1 k1] w1 fun e w2 => e = .returned (.tuple #[.agg (pc f1 X1 Y1), .bool true]) ∧ Ext w1 w2) (hA : ∀  w1, Ext w w1 → Calls Try.prog 28 #[.slice a0 n0 k0, .slice a1 n1 k1] w1 fun e w2 => ∃ g0, e = .returned (.tuple #[.slice (some ⟨g0, 0, none⟩) N2 65, .bool true, .bool true]) ∧ g0 < w2.heap.size ∧ Ext w1 w2 ∧ Held .u8 w2 g0 0 L2) (hT : ∀ x0 k0 w1, x0 < w1.heap.size → Held .u8 w1 x0 0 L2 → Calls Try.prog 29 #[.slice (some ⟨x0, 0, none⟩) N2 k0, .agg (pc f1 X1 Y1)] w1 fun e w2 => e = .returned (.bool true) ∧ Ext w1 w2) :
    Calls Try.prog 5 #[.slice a0 n0 k0, .slice a1 n1 k1] w fun e w' => e = .returned (.bool true) ∧ Below w.heap.size w w' := by
  have HR0 := Lib.hid hR0
  have HR1 := Lib.hid hR1
  have HA := Lib.hid hA
  have HT := Lib.hid hT
  clear hR0 hR1 hA hT 
  go_enter Try.func5, Try.ntmps5
  go_wp2_with (first | (go_at_call 22; first | ((with_reducible refine (HR0.out _ (by (repeat (first | exact Ext.refl _ | assumption | exact hE6 .. | refine Ext.trans ?_ (Ext.al _ _) | refine Ext.trans ?_ (Ext.gr _ _) | refine Ext.trans ?_ (by with_reducible assumption) | refine Ext.setRow ?_ (by first | omega | (simp <;> omega)) _)))).mono ?_); rintro e w' ⟨rfl, g1, rfl⟩) | ((with_reducible refine (HR1.out _ (by (repeat (first | exact Ext.refl _ | assumption | exact hE6 .. | refine Ext.trans ?_ (Ext.al _ _) | refine Ext.trans ?_ (Ext.gr _ _) | refine Ext.trans ?_ (by with_reducible assumption) | refine Ext.setRow ?_ (by first | omega | (simp <;> omega)) _)))).mono ?_); rintro e w' ⟨rfl, g2, rfl⟩) | fail) | (go_at_call 28; first | ((with_reducible refine (HA.out _ (by (repeat (first | exact Ext.refl _ | assumption | exact hE6 .. | refine Ext.trans ?_ (Ext.al _ _) | refine Ext.trans ?_ (Ext.gr _ _) | refine Ext.trans ?_ (by with_reducible assumption) | refine Ext.setRow ?_ (by first | omega | (simp <;> omega)) _))) ).mono ?_); rintro e w' ⟨b3_0, rfl, hl3_0, ⟨g3, rfl⟩, hh3_0⟩) | fail) | (go_at_call 29; first | ((with_reducible refine (HT.out _ _ _ (by first | exact hl3_0 | exact Ext.lt (by (repeat (first | exact Ext.refl _ | assumption | exact hE6 .. | refine Ext.trans ?_ (Ext.al _ _) | refine Ext.trans ?_ (Ext.gr _ _) | refine Ext.trans ?_ (by with_reducible assumption) | refine Ext.setRow ?_ (by first | omega | (simp <;> omega)) _))) hl3_0) (by first | exact hh3_0 | exact Ext.held (by (repeat (first | exact Ext.refl _ | assumption | exact hE6 .. | refine Ext.trans ?_ (Ext.al _ _) | refine Ext.trans ?_ (Ext.gr _ _) | refine Ext.trans ?_ (by with_reducible assumption) | refine Ext.setRow ?_ (by first | omega | (simp <;> omega)) _))) hl3_0 hh3_0)).mono ?_); rintro e w' ⟨rfl, g4, rfl⟩) | fail) | (first | (refine wpList_load_rowW rfl 26 _ rfl _ rfl _ _ _ _ (by (with_reducible first | assumption | (simp only [hsA, setRow_heap]; first | done | rfl) | (repeat (first | assumption | (refine heap_at _ _ _ ?_; simp only [hsA, setRow_heap]; done) | refine ext_row (Ext.al _ _) ?_ | refine ext_row (Ext.gr _ _) ?_ | refine ext_row (by assumption) ?_)))) Try.underlying26 rfl (inP _ _ _) ?_) | (refine wpList_load_partW rfl 26 _ rfl _ _ rfl _ _ _ (by (with_reducible first | assumption | (simp only [hsA, setRow_heap]; first | done | rfl) | (repeat (first | assumption | (refine heap_at _ _ _ ?_; simp only [hsA, setRow_heap]; done) | refine ext_row (Ext.al _ _) ?_ | refine ext_row (Ext.gr _ _) ?_ | refine ext_row (by assumption) ?_)))) _ (by first | with_reducible exact pc_x _ _ _ | with_reducible exact pc_y _ _ _ | with_reducible exact tc_x _ _ _ | with_reducible exact tc_y _ _ _ | with_reducible exact tc_z _ _ _) _ Try.underlying26 rfl (inP _ _ _) ?_) | (refine wpList_store_rowW rfl 26 _ _ rfl _ _ rfl rfl _ _ (by (with_reducible first | assumption | (simp only [hsA, setRow_heap]; first | done | rfl) | (repeat (first | assumption | (refine heap_at _ _ _ ?_; simp only [hsA, setRow_heap]; done) | refine ext_row (Ext.al _ _) ?_ | refine ext_row (Ext.gr _ _) ?_ | refine ext_row (by assumption) ?_)))) (inP _ _ _) (by simp only [ec_size, bc_size, pc_size, tc_size, ec_size, bc_size, pc_size, tc_size]; try rfl) (pc_one _ _ _) ?_; (try simp only [nmA]))))
  refine bodyPost_ret (v := .bool true) (by simp [results, Try.results5, go_sem]) rfl ⟨rfl, Ext.below (by (repeat (first | exact Ext.refl _ | assumption | exact hE6 .. | refine Ext.trans ?_ (Ext.al _ _) | refine Ext.trans ?_ (Ext.gr _ _) | refine Ext.trans ?_ (by with_reducible assumption) | refine Ext.setRow ?_ (by first | omega | (simp <;> omega)) _)))⟩
set_option maxHeartbeats 4000000 in
set_option maxRecDepth 100000 in
theorem keep (a0 : Option Addr) (n0 k0 : Nat) (a1 : Option Addr) (n1 k1 : Nat) (f0 : Bool) (X0 Y0 : Int) (f1 : Bool) (X1 Y1 : Int) (N2 : Nat) (L2 : List Int) (hn0 : ¬ (2147483647 : Int) < n0) (hn1 : ¬ (2147483647 : Int) < n1) (w : World) (hR0 : ∀ w1, Ext w w1 → Calls Try.prog 22 #[.slice a0 n0 k0] w1 fun e w2 => e = .returned (.tuple #[.agg (pc f0 X0 Y0), .bool true]) ∧ Ext w1 w2) (hR1 : ∀ w1, Ext w w1 → Calls Try.prog 22 #[.slice a1 n1 k1] w1 fun e w2 => e = .returned (.tuple #[.agg (pc f1 X1 Y1), .bool false]) ∧ Ext w1 w2) (hA : ∀ w1, Ext w w1 → Calls Try.prog 28 #[.slice a0 n0 k0, .slice a1 n1 k1] w1 fun e w2 => ∃ g, e = .returned (.tuple #[.slice (some ⟨g, 0, none⟩) N2 65, .bool false, .bool true]) ∧ w1.heap.size ≤ g ∧ g < w2.heap.size ∧ Ext w1 w2 ∧ Held .u8 w2 g 0 L2) (hT : ∀ x0 k0 w1, x0 < w1.heap.size → Held .u8 w1 x0 0 L2 → Calls Try.prog 29 #[.slice (some ⟨x0, 0, none⟩) N2 k0, .agg (pc f0 X0 Y0)] w1 fun e w2 => e = .returned (.bool true) ∧ Ext w1 w2) :
    Calls Try.prog 5 #[.slice a0 n0 k0, .slice a1 n1 k1] w fun e w' => e = .returned (.bool true) ∧ Below w.heap.size w w' := by
  have HR0 := Lib.hid hR0
  have HR1 := Lib.hid hR1
  have HA := Lib.hid hA
  have HT := Lib.hid hT
  clear hR0 hR1 hA hT 
  go_enter Try.func5, Try.ntmps5
  go_wp2_with (first | (have hz0 := hl5; refine wpList_store_rowW rfl 26 _ _ rfl _ _ rfl rfl _ _ (by (with_reducible first | assumption | (simp only [hsA, setRow_heap]; first | done | rfl) | (repeat (first | assumption | (refine heap_at _ _ _ ?_; simp only [hsA, setRow_heap]; done) | refine ext_row (Ext.al _ _) ?_ | refine ext_row (Ext.gr _ _) ?_ | refine ext_row (by assumption) ?_)))) (inP _ _ _) (by simp only [ec_size, bc_size, pc_size, tc_size, ec_size, bc_size, pc_size, tc_size]; try rfl) (pc_one _ _ _) ?_; generalize hw6 : World.setRow _ _ _ = w6; have hz1 : w6.heap[w.heap.size + g1.os.length + 1 + g2.os.length]? = some (.cells (pc f0 X0 Y0) 26 (0, 0)) := (by rw [← hw6]; exact setRow_heap _ _ _ _ _ _ (by (with_reducible first | assumption | (simp only [hsA, setRow_heap]; first | done | rfl) | (repeat (first | assumption | (refine heap_at _ _ _ ?_; simp only [hsA, setRow_heap]; done) | refine ext_row (Ext.al _ _) ?_ | refine ext_row (Ext.gr _ _) ?_ | refine ext_row (by assumption) ?_))))); have hz2 : Held .u8 w6 b5 0 L2 := (by rw [← hw6]; exact held_other hh5 (Nat.ne_of_gt hg5')); have hz3 : b5 < w6.heap.size := (by rw [← hw6, setRow_size]; exact hl5); have hz4 : Ext w w6 := (by rw [← hw6]; exact Ext.setRow (by (repeat (first | exact Ext.refl _ | assumption | exact hE6 .. | refine Ext.trans ?_ (Ext.al _ _) | refine Ext.trans ?_ (Ext.gr _ _) | refine Ext.trans ?_ (by with_reducible assumption) | refine Ext.setRow ?_ (by first | omega | (simp <;> omega)) _))) (show w.heap.size ≤ w.heap.size + g1.os.length + 1 + g2.os.length by omega) _); clear hw6) | (go_at_call 22; first | ((with_reducible refine (HR0.out _ (by (repeat (first | exact Ext.refl _ | assumption | exact hE6 .. | refine Ext.trans ?_ (Ext.al _ _) | refine Ext.trans ?_ (Ext.gr _ _) | refine Ext.trans ?_ (by with_reducible assumption) | refine Ext.setRow ?_ (by first | omega | (simp <;> omega)) _)))).mono ?_); rintro e w' ⟨rfl, g1, rfl⟩) | ((with_reducible refine (HR1.out _ (by (repeat (first | exact Ext.refl _ | assumption | exact hE6 .. | refine Ext.trans ?_ (Ext.al _ _) | refine Ext.trans ?_ (Ext.gr _ _) | refine Ext.trans ?_ (by with_reducible assumption) | refine Ext.setRow ?_ (by first | omega | (simp <;> omega)) _)))).mono ?_); rintro e w' ⟨rfl, g2, rfl⟩) | fail) | (go_at_call 28; first | ((with_reducible refine (HA.out _ (by (repeat (first | exact Ext.refl _ | assumption | exact hE6 .. | refine Ext.trans ?_ (Ext.al _ _) | refine Ext.trans ?_ (Ext.gr _ _) | refine Ext.trans ?_ (by with_reducible assumption) | refine Ext.setRow ?_ (by first | omega | (simp <;> omega)) _)))).mono ?_); rintro e w' ⟨b5, rfl, hg5, hl5, ⟨g5, rfl⟩, hh5⟩; have hg5' : _ < b5 := Nat.lt_of_lt_of_le (Nat.lt_succ_self _) (by simpa [size_alloc, size_ext] using hg5)) | fail) | (go_at_call 29; first | ((with_reducible refine (HT.out _ _ _ (by first | exact hz3 | exact Ext.lt (by (repeat (first | exact Ext.refl _ | assumption | exact hE6 .. | refine Ext.trans ?_ (Ext.al _ _) | refine Ext.trans ?_ (Ext.gr _ _) | refine Ext.trans ?_ (by with_reducible assumption) | refine Ext.setRow ?_ (by first | omega | (simp <;> omega)) _))) hz3) (by first | exact hz2 | exact Ext.held (by (repeat (first | exact Ext.refl _ | assumption | exact hE6 .. | refine Ext.trans ?_ (Ext.al _ _) | refine Ext.trans ?_ (Ext.gr _ _) | refine Ext.trans ?_ (by with_reducible assumption) | refine Ext.setRow ?_ (by first | omega | (simp <;> omega)) _))) hz3 hz2)).mono ?_); rintro e w' ⟨rfl, g3, rfl⟩) | fail) | (first | (refine wpList_load_rowW rfl 26 _ rfl _ rfl _ _ _ _ (by (with_reducible first | assumption | (simp only [hsA, setRow_heap]; first | done | rfl) | (repeat (first | assumption | (refine heap_at _ _ _ ?_; simp only [hsA, setRow_heap]; done) | refine ext_row (Ext.al _ _) ?_ | refine ext_row (Ext.gr _ _) ?_ | refine ext_row (by assumption) ?_)))) Try.underlying26 rfl (inP _ _ _) ?_) | (refine wpList_load_partW rfl 26 _ rfl _ _ rfl _ _ _ (by (with_reducible first | assumption | (simp only [hsA, setRow_heap]; first | done | rfl) | (repeat (first | assumption | (refine heap_at _ _ _ ?_; simp only [hsA, setRow_heap]; done) | refine ext_row (Ext.al _ _) ?_ | refine ext_row (Ext.gr _ _) ?_ | refine ext_row (by assumption) ?_)))) _ (by first | with_reducible exact pc_x _ _ _ | with_reducible exact pc_y _ _ _ | with_reducible exact tc_x _ _ _ | with_reducible exact tc_y _ _ _ | with_reducible exact tc_z _ _ _) _ Try.underlying26 rfl (inP _ _ _) ?_) | (refine wpList_store_rowW rfl 26 _ _ rfl _ _ rfl rfl _ _ (by (with_reducible first | assumption | (simp only [hsA, setRow_heap]; first | done | rfl) | (repeat (first | assumption | (refine heap_at _ _ _ ?_; simp only [hsA, setRow_heap]; done) | refine ext_row (Ext.al _ _) ?_ | refine ext_row (Ext.gr _ _) ?_ | refine ext_row (by assumption) ?_)))) (inP _ _ _) (by simp only [ec_size, bc_size, pc_size, tc_size, ec_size, bc_size, pc_size, tc_size]; try rfl) (pc_one _ _ _) ?_; (try simp only [nmA]))))
  refine bodyPost_ret (v := .bool true) (by simp [results, Try.results5, go_sem]) rfl ⟨rfl, Ext.below (by (repeat (first | exact Ext.refl _ | assumption | exact hE6 .. | refine Ext.trans ?_ (Ext.al _ _) | refine Ext.trans ?_ (Ext.gr _ _) | refine Ext.trans ?_ (by with_reducible assumption) | refine Ext.setRow ?_ (by first | omega | (simp <;> omega)) _)))⟩
theorem walk (a0 : Option Addr) (n0 k0 : Nat) (a1 : Option Addr) (n1 k1 : Nat) (w : World) (hs0 : (2147483647 : Int) < n0 ∨ Bd w a0 n0 k0 ∨ ∃ P, Gd w a0 n0 k0 P) (hs1 : (2147483647 : Int) < n1 ∨ Bd w a1 n1 k1 ∨ ∃ P, Gd w a1 n1 k1 P) :
    Calls Try.prog 5 #[.slice a0 n0 k0, .slice a1 n1 k1] w fun e w' => e = .returned (.bool true) ∧ Below w.heap.size w w' := by
  rcases hs0 with h0 | h0 | ⟨P0, h0⟩
  · exact big0 a0 n0 k0 a1 n1 k1  h0 w
  · obtain ⟨f0, X0, Y0, hR0⟩ := h0.read
    rcases hs1 with h1 | h1 | ⟨P1, h1⟩
    · exact big1 a0 n0 k0 a1 n1 k1 h0.small h1 w
    · exact no0 a0 n0 k0 a1 n1 k1 f0 X0 Y0 h0.small h1.small w hR0
    · exact no0 a0 n0 k0 a1 n1 k1 f0 X0 Y0 h0.small h1.small w hR0
  · rcases hs1 with h1 | h1 | ⟨P1, h1⟩
    · exact big1 a0 n0 k0 a1 n1 k1 h0.small h1 w
    · have hsm1 := h1.small
      obtain ⟨f1, X1, Y1, hR1⟩ := h1.read
      have hsm0 := h0.small
      have hon0 := h0.on
      have hR0 := h0.read
      obtain ⟨f0, X0, Y0, hpv0⟩ := pv_row P0
      rw [hpv0] at hR0
      obtain ⟨c0, o0, l0, rfl, rfl, p0, q0, r0, s0⟩ := h0
      have hT := fun g k w' h1 h2 => is_self g k P0 w' h1 h2
      rw [hpv0] at hT
      exact keep _ _ _ _ _ _ f0 X0 Y0 f1 X1 Y1 _ _ hsm0 hsm1 w hR0 hR1 (fun w' hE => iKept_no c0 o0 k0 l0 P0 _ w' (hE.lt p0) (hE.held p0 q0) s0 (hE.noPt h1.1)) hT
    · have hsm0 := h0.small
      have hon0 := h0.on
      have hR0 := h0.read
      obtain ⟨f0, X0, Y0, hpv0⟩ := pv_row P0
      rw [hpv0] at hR0
      obtain ⟨c0, o0, l0, rfl, rfl, p0, q0, r0, s0⟩ := h0
      have hsm1 := h1.small
      have hon1 := h1.on
      have hR1 := h1.read
      obtain ⟨f1, X1, Y1, hpv1⟩ := pv_row P1
      rw [hpv1] at hR1
      obtain ⟨c1, o1, l1, rfl, rfl, p1, q1, r1, s1⟩ := h1
      have hT := fun g k w' h1 h2 => is_self g k P1 w' h1 h2
      rw [hpv1] at hT
      exact good _ _ _ _ _ _ f0 X0 Y0 f1 X1 Y1 _ _ hsm0 hsm1 w hR0 hR1 (fun w' hE => iKept_any c0 o0 k0 c1 o1 k1 l0 l1 P0 P1 w' (hE.lt p0) (hE.held p0 q0) s0 (hE.lt p1) (hE.held p1 q1) s1) hT
theorem own : ownKnob Try.prog.godebug = none := by kernel_rfl
theorem laidOut : laidOutB Try.prog = true := by kernel_rfl

set_option maxRecDepth 100000 in
theorem lifted (os : Os) (started : os.Started) (H : Type) (enc : TypeId × Value → H) :
    ReturnsInHanded {} Try.checked os 5 .any (Rows.fnKeptSpec.pre6 enc Try.prog Try.f5 Rows.fnKeptRow.domain false) (Rows.fnKeptSpec.post enc Try.prog Try.f5 false true false false) := by
  refine returnsInHanded_of_change (C := Try.checked) own started (by kernel_rfl) Try.func5
    (ChangeSpec.witness6 (enc := enc) (C := Try.checked) false ⟨#[], #[.slice none 0 0, .slice none 0 0], []⟩ 8 (by kernel_rfl) (by kernel_rfl) (by kernel_rfl) (by kernel_rfl)) ?_
  intro W base args ds gs before hval0 hW _ _
  have hval : ∀ (j : Nat) t v, Try.f5.params[j]? = some t → args[j]? = some v → Value.okWide Try.prog W .any base t v := hval0
  have hW' := hW
  obtain ⟨p, q, hA0, _, rfl, _, _⟩ := hW
  have hA : DataW.TrodAll enc Try.prog W 0 (fun _ => true) true Try.f5.params.toList args.toList ds p := hA0
  rw [Try.params5] at hA hval
  obtain ⟨v0, vs0, d0, ds0, p0, q0, hargs, rfl, rfl, h0, r0⟩ := trodAll_cons hA
  obtain ⟨v1, vs1, d1, ds1, p1, q1, rfl, rfl, rfl, h1, r1⟩ := trodAll_cons r0
  obtain ⟨rfl, rfl, rfl⟩ := trodAll_nil r1
  obtain rfl : args = #[v0, v1] := by cases args; simp_all
  obtain ⟨a0, n0, k0, rfl, s0⟩ := bytes_in h0 (okWide_slice Try.underlying22 (hval 0 22 v0 rfl rfl))
  obtain ⟨a1, n1, k1, rfl, s1⟩ := bytes_in h1 (okWide_slice Try.underlying22 (hval 1 22 v1 rfl rfl))
  clear hA0 hval0
  refine (walk a0 n0 k0 a1 n1 k1 W s0 s1).mono fun e W' ⟨he, hg⟩ => ?_
  subst he
  exact ⟨_, rfl, law_post laidOut hW' rfl rfl Try.underlying4 rfl (by kernel_rfl) hg⟩

theorem closed : joinedFacts Try.pinned.checked.prog 5 Try.f5 Rows.fnKeptSpec Rows.fnKeptRow = true := closed_of (by kernel_rfl)
theorem over : Rows.fnKeptRow.holds Try.pinned (OpenSpec.ofChange Rows.fnKeptSpec) :=
  OpenClaim.holds_of_wide 5 Try.f5 rfl rfl rfl rfl rfl rfl rfl ⟨rfl, rfl, rfl, rfl, rfl⟩ rfl rfl rfl rfl rfl (by kernel_rfl) Try.func5 closed
    (of_decide_eq_true (by kernel_rfl)) (by unfold Func.isWrapper; first | (rw [if_pos (by decide +kernel)]; kernel_rfl) | (rw [if_neg (by decide +kernel)]; exact ⟨rfl, rfl⟩))
    (fun os started H enc _ => lifted os started H enc)

/-- THE STATEMENT. -/
theorem proved : Rows.FnKeptSaid :=
  over
#print axioms proved
end Go.Proofs.Ytmepgkcijeobkaa.fnKept
