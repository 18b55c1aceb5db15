/-
  What FnOpposite says: a point and the one on the other side are the one that is infinitely far; and so is nothing else that is added to it.
  Conditions: none.
-/
import Derived.Test.YtmepgkcijeobkaaRows
import Derived.Test.YtmepgkcijeobkaaFin
import Derived.Test.YtmepgkcijeobkaaRdaLaw0Rod
import Derived.Test.YtmepgkcijeobkaaRoe
import Derived.WalkKit
import Derived.WalkSpells
import Derived.Outline
import Derived.ProofKit
import Derived.OpenShut
namespace Go.Proofs.Ytmepgkcijeobkaa.fnOpposite
open Go Go.ChangeShapes Go.WideShapes Go.ChangeAt Go.RowKit Ecp
set_option linter.unusedSimpArgs false
set_option linter.unusedVariables false

set_option maxHeartbeats 4000000 in
set_option maxRecDepth 100000 in
theorem big0 (a0 : Option Addr) (n0 k0 : Nat) (a1 : Option Addr) (n1 k1 : Nat) (hn0 : (2147483647 : Int) < n0) (w : World)  :
    Calls Try.prog 18 #[.slice a0 n0 k0, .slice a1 n1 k1] w fun e w' => e = .returned (.bool true) ∧ Below w.heap.size w w' := by
  go_enter Try.func18, Try.ntmps18
  go_wp2_with (first | (first | (refine wpList_load_rowW rfl 26 _ rfl _ rfl _ _ _ _ (by (with_reducible first | assumption | (simp only [hsA, setRow_heap]; first | done | rfl) | (repeat (first | assumption | (refine heap_at _ _ _ ?_; simp only [hsA, setRow_heap]; done) | refine ext_row (Ext.al _ _) ?_ | refine ext_row (Ext.gr _ _) ?_ | refine ext_row (by assumption) ?_)))) Try.underlying26 rfl (inP _ _ _) ?_) | (refine wpList_load_partW rfl 26 _ rfl _ _ rfl _ _ _ (by (with_reducible first | assumption | (simp only [hsA, setRow_heap]; first | done | rfl) | (repeat (first | assumption | (refine heap_at _ _ _ ?_; simp only [hsA, setRow_heap]; done) | refine ext_row (Ext.al _ _) ?_ | refine ext_row (Ext.gr _ _) ?_ | refine ext_row (by assumption) ?_)))) _ (by first | with_reducible exact pc_x _ _ _ | with_reducible exact pc_y _ _ _ | with_reducible exact tc_x _ _ _ | with_reducible exact tc_y _ _ _ | with_reducible exact tc_z _ _ _) _ Try.underlying26 rfl (inP _ _ _) ?_) | (refine wpList_store_rowW rfl 26 _ _ rfl _ _ rfl rfl _ _ (by (with_reducible first | assumption | (simp only [hsA, setRow_heap]; first | done | rfl) | (repeat (first | assumption | (refine heap_at _ _ _ ?_; simp only [hsA, setRow_heap]; done) | refine ext_row (Ext.al _ _) ?_ | refine ext_row (Ext.gr _ _) ?_ | refine ext_row (by assumption) ?_)))) (inP _ _ _) (by simp only [ec_size, bc_size, pc_size, tc_size, ec_size, bc_size, pc_size, tc_size]; try rfl) (pc_one _ _ _) ?_; (try simp only [nmA])) | (refine wp_grow (l := [_, _, _, _, _, _, _, _, _, _, _, _, _, _, _, _, _, _]) (by kernel_rfl) (by kernel_rfl) ?_; (try simp only [act_put_none]); (repeat (first | go_big_quiet_skip | (go_big_quiet_want; refine quiet_load_row 26 _ rfl _ rfl _ _ _ _ (by rintro _ ⟨g9, rfl⟩; refine ext_row ⟨g9, rfl⟩ ?_; (with_reducible first | assumption | (simp only [hsA, setRow_heap]; first | done | rfl) | (repeat (first | assumption | (refine heap_at _ _ _ ?_; simp only [hsA, setRow_heap]; done) | refine ext_row (Ext.al _ _) ?_ | refine ext_row (Ext.gr _ _) ?_ | refine ext_row (by assumption) ?_)))) Try.underlying26 rfl (inP _ _ _) ?_; go_simp; go_big_quiet_on) | (go_big_quiet_want; refine quiet_load_part 26 _ rfl _ _ rfl _ _ _ (by rintro _ ⟨g9, rfl⟩; refine ext_row ⟨g9, rfl⟩ ?_; (with_reducible first | assumption | (simp only [hsA, setRow_heap]; first | done | rfl) | (repeat (first | assumption | (refine heap_at _ _ _ ?_; simp only [hsA, setRow_heap]; done) | refine ext_row (Ext.al _ _) ?_ | refine ext_row (Ext.gr _ _) ?_ | refine ext_row (by assumption) ?_)))) _ (by first | with_reducible exact pc_x _ _ _ | with_reducible exact pc_y _ _ _ | with_reducible exact tc_x _ _ _ | with_reducible exact tc_y _ _ _ | with_reducible exact tc_z _ _ _) _ Try.underlying26 rfl (inP _ _ _) ?_; go_simp; go_big_quiet_on) | (go_big_quiet_want; go_big_quiet_op; first | go_big_quiet_on))); refine wpQuiet_nil ?_; intro _ hw'; obtain ⟨g', hw''⟩ := hw'; subst hw'')))
  refine bodyPost_ret (v := .bool true) (by simp [results, Try.results18, go_sem]) rfl ⟨rfl, Ext.below (by (repeat (first | exact Ext.refl _ | assumption | exact hE6 .. | refine Ext.trans ?_ (Ext.al _ _) | refine Ext.trans ?_ (Ext.gr _ _) | refine Ext.trans ?_ (by with_reducible assumption) | refine Ext.setRow ?_ (by first | omega | (simp <;> omega)) _)))⟩
set_option maxHeartbeats 4000000 in
set_option maxRecDepth 100000 in
theorem big1 (a0 : Option Addr) (n0 k0 : Nat) (a1 : Option Addr) (n1 k1 : Nat) (hn0 : ¬ (2147483647 : Int) < n0) (hn1 : (2147483647 : Int) < n1) (w : World)  :
    Calls Try.prog 18 #[.slice a0 n0 k0, .slice a1 n1 k1] w fun e w' => e = .returned (.bool true) ∧ Below w.heap.size w w' := by
  go_enter Try.func18, Try.ntmps18
  go_wp2_with (first | (first | (refine wpList_load_rowW rfl 26 _ rfl _ rfl _ _ _ _ (by (with_reducible first | assumption | (simp only [hsA, setRow_heap]; first | done | rfl) | (repeat (first | assumption | (refine heap_at _ _ _ ?_; simp only [hsA, setRow_heap]; done) | refine ext_row (Ext.al _ _) ?_ | refine ext_row (Ext.gr _ _) ?_ | refine ext_row (by assumption) ?_)))) Try.underlying26 rfl (inP _ _ _) ?_) | (refine wpList_load_partW rfl 26 _ rfl _ _ rfl _ _ _ (by (with_reducible first | assumption | (simp only [hsA, setRow_heap]; first | done | rfl) | (repeat (first | assumption | (refine heap_at _ _ _ ?_; simp only [hsA, setRow_heap]; done) | refine ext_row (Ext.al _ _) ?_ | refine ext_row (Ext.gr _ _) ?_ | refine ext_row (by assumption) ?_)))) _ (by first | with_reducible exact pc_x _ _ _ | with_reducible exact pc_y _ _ _ | with_reducible exact tc_x _ _ _ | with_reducible exact tc_y _ _ _ | with_reducible exact tc_z _ _ _) _ Try.underlying26 rfl (inP _ _ _) ?_) | (refine wpList_store_rowW rfl 26 _ _ rfl _ _ rfl rfl _ _ (by (with_reducible first | assumption | (simp only [hsA, setRow_heap]; first | done | rfl) | (repeat (first | assumption | (refine heap_at _ _ _ ?_; simp only [hsA, setRow_heap]; done) | refine ext_row (Ext.al _ _) ?_ | refine ext_row (Ext.gr _ _) ?_ | refine ext_row (by assumption) ?_)))) (inP _ _ _) (by simp only [ec_size, bc_size, pc_size, tc_size, ec_size, bc_size, pc_size, tc_size]; try rfl) (pc_one _ _ _) ?_; (try simp only [nmA])) | (refine wp_grow (l := [_, _, _, _, _, _, _, _, _, _, _, _, _, _, _, _, _, _]) (by kernel_rfl) (by kernel_rfl) ?_; (try simp only [act_put_none]); (repeat (first | go_big_quiet_skip | (go_big_quiet_want; refine quiet_load_row 26 _ rfl _ rfl _ _ _ _ (by rintro _ ⟨g9, rfl⟩; refine ext_row ⟨g9, rfl⟩ ?_; (with_reducible first | assumption | (simp only [hsA, setRow_heap]; first | done | rfl) | (repeat (first | assumption | (refine heap_at _ _ _ ?_; simp only [hsA, setRow_heap]; done) | refine ext_row (Ext.al _ _) ?_ | refine ext_row (Ext.gr _ _) ?_ | refine ext_row (by assumption) ?_)))) Try.underlying26 rfl (inP _ _ _) ?_; go_simp; go_big_quiet_on) | (go_big_quiet_want; refine quiet_load_part 26 _ rfl _ _ rfl _ _ _ (by rintro _ ⟨g9, rfl⟩; refine ext_row ⟨g9, rfl⟩ ?_; (with_reducible first | assumption | (simp only [hsA, setRow_heap]; first | done | rfl) | (repeat (first | assumption | (refine heap_at _ _ _ ?_; simp only [hsA, setRow_heap]; done) | refine ext_row (Ext.al _ _) ?_ | refine ext_row (Ext.gr _ _) ?_ | refine ext_row (by assumption) ?_)))) _ (by first | with_reducible exact pc_x _ _ _ | with_reducible exact pc_y _ _ _ | with_reducible exact tc_x _ _ _ | with_reducible exact tc_y _ _ _ | with_reducible exact tc_z _ _ _) _ Try.underlying26 rfl (inP _ _ _) ?_; go_simp; go_big_quiet_on) | (go_big_quiet_want; go_big_quiet_op; first | go_big_quiet_on))); refine wpQuiet_nil ?_; intro _ hw'; obtain ⟨g', hw''⟩ := hw'; subst hw'')))
  refine bodyPost_ret (v := .bool true) (by simp [results, Try.results18, go_sem]) rfl ⟨rfl, Ext.below (by (repeat (first | exact Ext.refl _ | assumption | exact hE6 .. | refine Ext.trans ?_ (Ext.al _ _) | refine Ext.trans ?_ (Ext.gr _ _) | refine Ext.trans ?_ (by with_reducible assumption) | refine Ext.setRow ?_ (by first | omega | (simp <;> omega)) _)))⟩
set_option maxHeartbeats 4000000 in
set_option maxRecDepth 100000 in
theorem no0 (a0 : Option Addr) (n0 k0 : Nat) (a1 : Option Addr) (n1 k1 : Nat) (f0 : Bool) (X0 Y0 : Int) (f1 : Bool) (X1 Y1 : Int) (t1 : Bool) (hn0 : ¬ (2147483647 : Int) < n0) (hn1 : ¬ (2147483647 : Int) < n1) (w : World) (hR0 : ∀ w1, Ext w w1 → Calls Try.prog 22 #[.slice a0 n0 k0] w1 fun e w2 => e = .returned (.tuple #[.agg (pc f0 X0 Y0), .bool false]) ∧ Ext w1 w2) (hR1 : ∀ w1, Ext w w1 → Calls Try.prog 22 #[.slice a1 n1 k1] w1 fun e w2 => e = .returned (.tuple #[.agg (pc f1 X1 Y1), .bool t1]) ∧ Ext w1 w2) :
    Calls Try.prog 18 #[.slice a0 n0 k0, .slice a1 n1 k1] w fun e w' => e = .returned (.bool true) ∧ Below w.heap.size w w' := by
  have HR0 := Lib.hid hR0
  have HR1 := Lib.hid hR1
  clear hR0 hR1 
  go_enter Try.func18, Try.ntmps18
  go_wp2_with (first | (go_at_call 22; first | ((with_reducible refine (HR0.out _ (by (repeat (first | exact Ext.refl _ | assumption | exact hE6 .. | refine Ext.trans ?_ (Ext.al _ _) | refine Ext.trans ?_ (Ext.gr _ _) | refine Ext.trans ?_ (by with_reducible assumption) | refine Ext.setRow ?_ (by first | omega | (simp <;> omega)) _)))).mono ?_); rintro e w' ⟨rfl, g1, rfl⟩) | ((with_reducible refine (HR1.out _ (by (repeat (first | exact Ext.refl _ | assumption | exact hE6 .. | refine Ext.trans ?_ (Ext.al _ _) | refine Ext.trans ?_ (Ext.gr _ _) | refine Ext.trans ?_ (by with_reducible assumption) | refine Ext.setRow ?_ (by first | omega | (simp <;> omega)) _)))).mono ?_); rintro e w' ⟨rfl, g2, rfl⟩) | fail) | (first | (refine wpList_load_rowW rfl 26 _ rfl _ rfl _ _ _ _ (by (with_reducible first | assumption | (simp only [hsA, setRow_heap]; first | done | rfl) | (repeat (first | assumption | (refine heap_at _ _ _ ?_; simp only [hsA, setRow_heap]; done) | refine ext_row (Ext.al _ _) ?_ | refine ext_row (Ext.gr _ _) ?_ | refine ext_row (by assumption) ?_)))) Try.underlying26 rfl (inP _ _ _) ?_) | (refine wpList_load_partW rfl 26 _ rfl _ _ rfl _ _ _ (by (with_reducible first | assumption | (simp only [hsA, setRow_heap]; first | done | rfl) | (repeat (first | assumption | (refine heap_at _ _ _ ?_; simp only [hsA, setRow_heap]; done) | refine ext_row (Ext.al _ _) ?_ | refine ext_row (Ext.gr _ _) ?_ | refine ext_row (by assumption) ?_)))) _ (by first | with_reducible exact pc_x _ _ _ | with_reducible exact pc_y _ _ _ | with_reducible exact tc_x _ _ _ | with_reducible exact tc_y _ _ _ | with_reducible exact tc_z _ _ _) _ Try.underlying26 rfl (inP _ _ _) ?_) | (refine wpList_store_rowW rfl 26 _ _ rfl _ _ rfl rfl _ _ (by (with_reducible first | assumption | (simp only [hsA, setRow_heap]; first | done | rfl) | (repeat (first | assumption | (refine heap_at _ _ _ ?_; simp only [hsA, setRow_heap]; done) | refine ext_row (Ext.al _ _) ?_ | refine ext_row (Ext.gr _ _) ?_ | refine ext_row (by assumption) ?_)))) (inP _ _ _) (by simp only [ec_size, bc_size, pc_size, tc_size, ec_size, bc_size, pc_size, tc_size]; try rfl) (pc_one _ _ _) ?_; (try simp only [nmA])) | (refine wp_grow (l := [_, _, _, _, _, _, _, _, _, _, _, _, _, _, _, _, _, _]) (by kernel_rfl) (by kernel_rfl) ?_; (try simp only [act_put_none]); (repeat (first | go_big_quiet_skip | (go_big_quiet_want; refine quiet_load_row 26 _ rfl _ rfl _ _ _ _ (by rintro _ ⟨g9, rfl⟩; refine ext_row ⟨g9, rfl⟩ ?_; (with_reducible first | assumption | (simp only [hsA, setRow_heap]; first | done | rfl) | (repeat (first | assumption | (refine heap_at _ _ _ ?_; simp only [hsA, setRow_heap]; done) | refine ext_row (Ext.al _ _) ?_ | refine ext_row (Ext.gr _ _) ?_ | refine ext_row (by assumption) ?_)))) Try.underlying26 rfl (inP _ _ _) ?_; go_simp; go_big_quiet_on) | (go_big_quiet_want; refine quiet_load_part 26 _ rfl _ _ rfl _ _ _ (by rintro _ ⟨g9, rfl⟩; refine ext_row ⟨g9, rfl⟩ ?_; (with_reducible first | assumption | (simp only [hsA, setRow_heap]; first | done | rfl) | (repeat (first | assumption | (refine heap_at _ _ _ ?_; simp only [hsA, setRow_heap]; done) | refine ext_row (Ext.al _ _) ?_ | refine ext_row (Ext.gr _ _) ?_ | refine ext_row (by assumption) ?_)))) _ (by first | with_reducible exact pc_x _ _ _ | with_reducible exact pc_y _ _ _ | with_reducible exact tc_x _ _ _ | with_reducible exact tc_y _ _ _ | with_reducible exact tc_z _ _ _) _ Try.underlying26 rfl (inP _ _ _) ?_; go_simp; go_big_quiet_on) | (go_big_quiet_want; go_big_quiet_op; first | go_big_quiet_on))); refine wpQuiet_nil ?_; intro _ hw'; obtain ⟨g', hw''⟩ := hw'; subst hw'')))
  refine bodyPost_ret (v := .bool true) (by simp [results, Try.results18, go_sem]) rfl ⟨rfl, Ext.below (by (repeat (first | exact Ext.refl _ | assumption | exact hE6 .. | refine Ext.trans ?_ (Ext.al _ _) | refine Ext.trans ?_ (Ext.gr _ _) | refine Ext.trans ?_ (by with_reducible assumption) | refine Ext.setRow ?_ (by first | omega | (simp <;> omega)) _)))⟩
set_option maxHeartbeats 4000000 in
set_option maxRecDepth 100000 in
theorem no1 (a0 : Option Addr) (n0 k0 : Nat) (a1 : Option Addr) (n1 k1 : Nat) (f0 : Bool) (X0 Y0 : Int) (f1 : Bool) (X1 Y1 : Int) (hn0 : ¬ (2147483647 : Int) < n0) (hn1 : ¬ (2147483647 : Int) < n1) (w : World) (hR0 : ∀ w1, Ext w w1 → Calls Try.prog 22 #[.slice a0 n0 k0] w1 fun e w2 => e = .returned (.tuple #[.agg (pc f0 X0 Y0), .bool true]) ∧ Ext w1 w2) (hR1 : ∀ w1, Ext w w1 → Calls Try.prog 22 #[.slice a1 n1 k1] w1 fun e w2 => e = .returned (.tuple #[.agg (pc f1 X1 Y1), .bool false]) ∧ Ext w1 w2) :
    Calls Try.prog 18 #[.slice a0 n0 k0, .slice a1 n1 k1] w fun e w' => e = .returned (.bool true) ∧ Below w.heap.size w w' := by
  have HR0 := Lib.hid hR0
  have HR1 := Lib.hid hR1
  clear hR0 hR1 
  go_enter Try.func18, Try.ntmps18
  go_wp2_with (first | (go_at_call 22; first | ((with_reducible refine (HR0.out _ (by (repeat (first | exact Ext.refl _ | assumption | exact hE6 .. | refine Ext.trans ?_ (Ext.al _ _) | refine Ext.trans ?_ (Ext.gr _ _) | refine Ext.trans ?_ (by with_reducible assumption) | refine Ext.setRow ?_ (by first | omega | (simp <;> omega)) _)))).mono ?_); rintro e w' ⟨rfl, g1, rfl⟩) | ((with_reducible refine (HR1.out _ (by (repeat (first | exact Ext.refl _ | assumption | exact hE6 .. | refine Ext.trans ?_ (Ext.al _ _) | refine Ext.trans ?_ (Ext.gr _ _) | refine Ext.trans ?_ (by with_reducible assumption) | refine Ext.setRow ?_ (by first | omega | (simp <;> omega)) _)))).mono ?_); rintro e w' ⟨rfl, g2, rfl⟩) | fail) | (first | (refine wpList_load_rowW rfl 26 _ rfl _ rfl _ _ _ _ (by (with_reducible first | assumption | (simp only [hsA, setRow_heap]; first | done | rfl) | (repeat (first | assumption | (refine heap_at _ _ _ ?_; simp only [hsA, setRow_heap]; done) | refine ext_row (Ext.al _ _) ?_ | refine ext_row (Ext.gr _ _) ?_ | refine ext_row (by assumption) ?_)))) Try.underlying26 rfl (inP _ _ _) ?_) | (refine wpList_load_partW rfl 26 _ rfl _ _ rfl _ _ _ (by (with_reducible first | assumption | (simp only [hsA, setRow_heap]; first | done | rfl) | (repeat (first | assumption | (refine heap_at _ _ _ ?_; simp only [hsA, setRow_heap]; done) | refine ext_row (Ext.al _ _) ?_ | refine ext_row (Ext.gr _ _) ?_ | refine ext_row (by assumption) ?_)))) _ (by first | with_reducible exact pc_x _ _ _ | with_reducible exact pc_y _ _ _ | with_reducible exact tc_x _ _ _ | with_reducible exact tc_y _ _ _ | with_reducible exact tc_z _ _ _) _ Try.underlying26 rfl (inP _ _ _) ?_) | (refine wpList_store_rowW rfl 26 _ _ rfl _ _ rfl rfl _ _ (by (with_reducible first | assumption | (simp only [hsA, setRow_heap]; first | done | rfl) | (repeat (first | assumption | (refine heap_at _ _ _ ?_; simp only [hsA, setRow_heap]; done) | refine ext_row (Ext.al _ _) ?_ | refine ext_row (Ext.gr _ _) ?_ | refine ext_row (by assumption) ?_)))) (inP _ _ _) (by simp only [ec_size, bc_size, pc_size, tc_size, ec_size, bc_size, pc_size, tc_size]; try rfl) (pc_one _ _ _) ?_; (try simp only [nmA])) | (refine wp_grow (l := [_, _, _, _, _, _, _, _, _, _, _, _, _, _, _, _, _, _]) (by kernel_rfl) (by kernel_rfl) ?_; (try simp only [act_put_none]); (repeat (first | go_big_quiet_skip | (go_big_quiet_want; refine quiet_load_row 26 _ rfl _ rfl _ _ _ _ (by rintro _ ⟨g9, rfl⟩; refine ext_row ⟨g9, rfl⟩ ?_; (with_reducible first | assumption | (simp only [hsA, setRow_heap]; first | done | rfl) | (repeat (first | assumption | (refine heap_at _ _ _ ?_; simp only [hsA, setRow_heap]; done) | refine ext_row (Ext.al _ _) ?_ | refine ext_row (Ext.gr _ _) ?_ | refine ext_row (by assumption) ?_)))) Try.underlying26 rfl (inP _ _ _) ?_; go_simp; go_big_quiet_on) | (go_big_quiet_want; refine quiet_load_part 26 _ rfl _ _ rfl _ _ _ (by rintro _ ⟨g9, rfl⟩; refine ext_row ⟨g9, rfl⟩ ?_; (with_reducible first | assumption | (simp only [hsA, setRow_heap]; first | done | rfl) | (repeat (first | assumption | (refine heap_at _ _ _ ?_; simp only [hsA, setRow_heap]; done) | refine ext_row (Ext.al _ _) ?_ | refine ext_row (Ext.gr _ _) ?_ | refine ext_row (by assumption) ?_)))) _ (by first | with_reducible exact pc_x _ _ _ | with_reducible exact pc_y _ _ _ | with_reducible exact tc_x _ _ _ | with_reducible exact tc_y _ _ _ | with_reducible exact tc_z _ _ _) _ Try.underlying26 rfl (inP _ _ _) ?_; go_simp; go_big_quiet_on) | (go_big_quiet_want; go_big_quiet_op; first | go_big_quiet_on))); refine wpQuiet_nil ?_; intro _ hw'; obtain ⟨g', hw''⟩ := hw'; subst hw'')))
  refine bodyPost_ret (v := .bool true) (by simp [results, Try.results18, go_sem]) rfl ⟨rfl, Ext.below (by (repeat (first | exact Ext.refl _ | assumption | exact hE6 .. | refine Ext.trans ?_ (Ext.al _ _) | refine Ext.trans ?_ (Ext.gr _ _) | refine Ext.trans ?_ (by with_reducible assumption) | refine Ext.setRow ?_ (by first | omega | (simp <;> omega)) _)))⟩
set_option maxHeartbeats 4000000 in
set_option maxRecDepth 100000 in
theorem good (a0 : Option Addr) (n0 k0 : Nat) (a1 : Option Addr) (n1 k1 : Nat) (N0 P2 : Pt) (bb : Bool) (f0 : Bool) (X0 Y0 : Int) (f1 : Bool) (X1 Y1 : Int) (f2 : Bool) (X2 Y2 : Int) (hn0 : ¬ (2147483647 : Int) < n0) (hn1 : ¬ (2147483647 : Int) < n1) (w : World) (hR0 : ∀ w1, Ext w w1 → Calls Try.prog 22 #[.slice a0 n0 k0] w1 fun e w2 => e = .returned (.tuple #[.agg (pc f0 X0 Y0), .bool true]) ∧ Ext w1 w2) (hR1 : ∀ w1, Ext w w1 → Calls Try.prog 22 #[.slice a1 n1 k1] w1 fun e w2 => e = .returned (.tuple #[.agg (pc f1 X1 Y1), .bool true]) ∧ Ext w1 w2) (hO : ∀ w1, Calls Try.prog 27 #[.agg (pc f0 X0 Y0)] w1 fun e w2 => e = .returned (.agg (pc f2 X2 Y2)) ∧ Ext w1 w2) (hW : ∀ w1, Calls Try.prog 26 #[.agg (pc f2 X2 Y2)] w1 fun e w2 => ∃ g kk, e = .returned (.slice (some ⟨g, 0, none⟩) (wrL N0).length kk) ∧ Ext w1 w2 ∧ Told w2 g N0) (hS : ∀ g k w1, Ext w w1 → Told w1 g N0 → Calls Try.prog 50 #[.slice a0 n0 k0, .slice (some ⟨g, 0, none⟩) (wrL N0).length k] w1 fun e w2 => ∃ g, e = .returned (.slice (some ⟨g, 0, none⟩) (wrL .far).length 65) ∧ Ext w1 w2 ∧ Told w2 g .far) (hU : ∀ w1, Ext w w1 → Calls Try.prog 50 #[.slice a0 n0 k0, .slice a1 n1 k1] w1 fun e w2 => ∃ g, e = .returned (.slice (some ⟨g, 0, none⟩) (wrL P2).length 65) ∧ Ext w1 w2 ∧ Told w2 g P2) (hZ : ∀ g c w1, Told w1 g .far → Held .u8 w1 c 0 [0] → Calls Try.prog 25 #[.slice (some ⟨g, 0, none⟩) (wrL .far).length 65, .slice (some ⟨c, 0, none⟩) 1 1] w1 fun e w2 => e = .returned (.bool true) ∧ Ext w1 w2) (hY : ∀ g c w1, Told w1 g P2 → Held .u8 w1 c 0 [0] → Calls Try.prog 25 #[.slice (some ⟨g, 0, none⟩) (wrL P2).length 65, .slice (some ⟨c, 0, none⟩) 1 1] w1 fun e w2 => e = .returned (.bool bb) ∧ Ext w1 w2) (hQ : ∀ w1, (binOp .eql 26 (.agg (pc f1 X1 Y1)) (.agg (pc f2 X2 Y2))).run Try.prog w1 = .ok (.bool bb) w1) :
    Calls Try.prog 18 #[.slice a0 n0 k0, .slice a1 n1 k1] w fun e w' => e = .returned (.bool true) ∧ Below w.heap.size w w' := by
  have HR0 := Lib.hid hR0
  have HR1 := Lib.hid hR1
  have HO := Lib.hid hO
  have HW := Lib.hid hW
  have HS := Lib.hid hS
  have HU := Lib.hid hU
  have HZ := Lib.hid hZ
  have HY := Lib.hid hY
  have HQ := Lib.hid hQ
  clear hR0 hR1 hO hW hS hU hZ hY hQ
  go_enter Try.func18, Try.ntmps18
  go_wp2_with (first | (go_at_call 22; first | ((with_reducible refine (HR0.out _ (by (repeat (first | exact Ext.refl _ | assumption | exact hE6 .. | refine Ext.trans ?_ (Ext.al _ _) | refine Ext.trans ?_ (Ext.gr _ _) | refine Ext.trans ?_ (by with_reducible assumption) | refine Ext.setRow ?_ (by first | omega | (simp <;> omega)) _)))).mono ?_); rintro e w' ⟨rfl, g1, rfl⟩) | ((with_reducible refine (HR1.out _ (by (repeat (first | exact Ext.refl _ | assumption | exact hE6 .. | refine Ext.trans ?_ (Ext.al _ _) | refine Ext.trans ?_ (Ext.gr _ _) | refine Ext.trans ?_ (by with_reducible assumption) | refine Ext.setRow ?_ (by first | omega | (simp <;> omega)) _)))).mono ?_); rintro e w' ⟨rfl, g2, rfl⟩) | fail) | (go_at_call 27; first | ((with_reducible refine (HO.out _).mono ?_); rintro e w' ⟨rfl, g3, rfl⟩) | fail) | (first | (refine wpList_load_rowW rfl 26 _ rfl _ rfl _ _ _ _ (by (with_reducible first | assumption | (simp only [hsA, setRow_heap]; first | done | rfl) | (repeat (first | assumption | (refine heap_at _ _ _ ?_; simp only [hsA, setRow_heap]; done) | refine ext_row (Ext.al _ _) ?_ | refine ext_row (Ext.gr _ _) ?_ | refine ext_row (by assumption) ?_)))) Try.underlying26 rfl (inP _ _ _) ?_) | (refine wpList_load_partW rfl 26 _ rfl _ _ rfl _ _ _ (by (with_reducible first | assumption | (simp only [hsA, setRow_heap]; first | done | rfl) | (repeat (first | assumption | (refine heap_at _ _ _ ?_; simp only [hsA, setRow_heap]; done) | refine ext_row (Ext.al _ _) ?_ | refine ext_row (Ext.gr _ _) ?_ | refine ext_row (by assumption) ?_)))) _ (by first | with_reducible exact pc_x _ _ _ | with_reducible exact pc_y _ _ _ | with_reducible exact tc_x _ _ _ | with_reducible exact tc_y _ _ _ | with_reducible exact tc_z _ _ _) _ Try.underlying26 rfl (inP _ _ _) ?_) | (refine wpList_store_rowW rfl 26 _ _ rfl _ _ rfl rfl _ _ (by (with_reducible first | assumption | (simp only [hsA, setRow_heap]; first | done | rfl) | (repeat (first | assumption | (refine heap_at _ _ _ ?_; simp only [hsA, setRow_heap]; done) | refine ext_row (Ext.al _ _) ?_ | refine ext_row (Ext.gr _ _) ?_ | refine ext_row (by assumption) ?_)))) (inP _ _ _) (by simp only [ec_size, bc_size, pc_size, tc_size, ec_size, bc_size, pc_size, tc_size]; try rfl) (pc_one _ _ _) ?_; (try simp only [nmA]))))
  have hr2 : ((ext ((ext ((ext w g1).alloc (.cells (pc f0 X0 Y0) 26)) g2).alloc (.cells (pc f1 X1 Y1) 26)) g3).alloc (.cells (pc f2 X2 Y2) 26)).heap[(w.heap.size + g1.os.length + 1 + g2.os.length)]? = some (.cells (pc f1 X1 Y1) 26 (0, 0)) := by (with_reducible first | assumption | (simp only [hsA, setRow_heap]; first | done | rfl) | (repeat (first | assumption | (refine heap_at _ _ _ ?_; simp only [hsA, setRow_heap]; done) | refine ext_row (Ext.al _ _) ?_ | refine ext_row (Ext.gr _ _) ?_ | refine ext_row (by assumption) ?_)))
  have hr3 : ((ext ((ext ((ext w g1).alloc (.cells (pc f0 X0 Y0) 26)) g2).alloc (.cells (pc f1 X1 Y1) 26)) g3).alloc (.cells (pc f2 X2 Y2) 26)).heap[(w.heap.size + g1.os.length + 1 + g2.os.length + 1 + g3.os.length)]? = some (.cells (pc f2 X2 Y2) 26 (0, 0)) := by (with_reducible first | assumption | (simp only [hsA, setRow_heap]; first | done | rfl) | (repeat (first | assumption | (refine heap_at _ _ _ ?_; simp only [hsA, setRow_heap]; done) | refine ext_row (Ext.al _ _) ?_ | refine ext_row (Ext.gr _ _) ?_ | refine ext_row (by assumption) ?_)))
  have hEW : Ext w ((ext ((ext ((ext w g1).alloc (.cells (pc f0 X0 Y0) 26)) g2).alloc (.cells (pc f1 X1 Y1) 26)) g3).alloc (.cells (pc f2 X2 Y2) 26)) := by (repeat (first | exact Ext.refl _ | assumption | exact hE6 .. | refine Ext.trans ?_ (Ext.al _ _) | refine Ext.trans ?_ (Ext.gr _ _) | refine Ext.trans ?_ (by with_reducible assumption) | refine Ext.setRow ?_ (by first | omega | (simp <;> omega)) _))
  generalize (ext ((ext ((ext w g1).alloc (.cells (pc f0 X0 Y0) 26)) g2).alloc (.cells (pc f1 X1 Y1) 26)) g3).alloc (.cells (pc f2 X2 Y2) 26) = W at hr2 hr3 hEW ⊢
  generalize (w.heap.size + g1.os.length + 1 + g2.os.length + 1 + g3.os.length) = B3 at hr3 ⊢
  generalize (w.heap.size + g1.os.length + 1 + g2.os.length) = B2 at hr2 ⊢
  replace hr2 : W.drew.heap[B2]? = some (.cells (pc f1 X1 Y1) 26 (0, 0)) := hr2
  replace hr3 : W.drew.heap[B3]? = some (.cells (pc f2 X2 Y2) 26 (0, 0)) := hr3
  refine wp_region_held_drew (S := fun w' => Ext W.drew w') (by kernel_rfl) (Ext.refl _) (fun hHeld => ?_)
  refine wpAnyH_take (i := 0) (v := ?_) rfl (by kernel_rfl) (by kernel_rfl) (by kernel_rfl) (fun _ _ _ h => h) (Or.inl ⟨by rfl, ?_⟩) (by assumption) ?_
  rotate_left
  · intro w9 h9
    go_simp
    try with_reducible rfl
  simp only [Act.put, List.getElem_toArray, List.getElem_cons_succ, List.getElem_cons_zero, List.setIfInBounds_toArray, List.set_cons_zero, List.set_cons_succ]
  refine wpAnyH_take (i := 1) rfl (by kernel_rfl) (by kernel_rfl) (by kernel_rfl) (fun _ _ _ h => h) (yieldsIf_load_row (by rfl) 26 _ rfl _ rfl 26 (pc f2 X2 Y2) (0, 0) _ (fun w9 (h9 : Ext W.drew w9) => ext_row h9 hr3) Try.underlying26 rfl (inP _ _ _)) (by assumption) ?_
  simp only [Act.put, List.getElem_toArray, List.getElem_cons_succ, List.getElem_cons_zero, List.setIfInBounds_toArray, List.set_cons_zero, List.set_cons_succ]
  refine wpAnyH_ready (rs := [2, 4]) (by kernel_rfl) (by simp) ?_
  refine AllReadyH.cons rfl (fun K hK => ?_) (AllReadyH.cons rfl (fun K hK => ?_) AllReadyH.nil)
  · go_simp
    go_at_call 26
    refine (HW.out _).mono ?_
    rintro e w1_ ⟨b1, kk1, rfl, hE1, ht1⟩
    refine hK.out _ _ hE1 (fun hHeld => ?_)
    clear hK K
    try simp only [Act.put, List.getElem_toArray, List.getElem_cons_succ, List.getElem_cons_zero, List.setIfInBounds_toArray, List.set_cons_zero, List.set_cons_succ]
    refine wpAnyH_ready (rs := [3, 4]) (by kernel_rfl) (by simp) ?_
    refine AllReadyH.cons rfl (fun K hK => ?_) (AllReadyH.cons rfl (fun K hK => ?_) AllReadyH.nil)
    · go_simp
      go_at_call 50
      refine (HS.out _ _ _ (hEW.trans (Ext.of_drew hE1)) (Ext.told (Ext.refl _) ht1)).mono ?_
      rintro e w2_ ⟨b2, rfl, hE2, ht2⟩
      refine hK.out _ _ (hE1.trans hE2) (fun hHeld => ?_)
      clear hK K
      try simp only [Act.put, List.getElem_toArray, List.getElem_cons_succ, List.getElem_cons_zero, List.setIfInBounds_toArray, List.set_cons_zero, List.set_cons_succ]
      refine wpAnyH_ready (rs := [4]) (by kernel_rfl) (by simp) ?_
      refine AllReadyH.cons rfl (fun K hK => ?_) AllReadyH.nil
      go_simp
      have hE3 : Ext w2_ ((w2_).alloc (.cells #[.int .u8 0] 5)) := Ext.al _ _
      have hz3 : Held .u8 ((w2_).alloc (.cells #[.int .u8 0] 5)) (w2_).heap.size 0 [0] := held_one (heap_at _ _ _ rfl)
      have hzl3 : (w2_).heap.size < ((w2_).alloc (.cells #[.int .u8 0] 5)).heap.size := by rw [size_alloc]; exact Nat.lt_succ_self _
      have hzk3 := Lib.hid (And.intro hz3 hzl3)
      clear hz3 hzl3
      refine hK.out _ _ ((hE1.trans hE2).trans hE3) (fun hHeld => ?_)
      clear hK K
      try simp only [Act.put, List.getElem_toArray, List.getElem_cons_succ, List.getElem_cons_zero, List.setIfInBounds_toArray, List.set_cons_zero, List.set_cons_succ]
      refine wpAnyH_ready (rs := [5]) (by kernel_rfl) (by simp) ?_
      refine AllReadyH.cons rfl (fun K hK => ?_) AllReadyH.nil
      go_simp
      go_at_call 25
      refine (HZ.out _ _ _ (Ext.told hE3 ht2) (Ext.held (Ext.refl _) hzk3.out.2 hzk3.out.1)).mono ?_
      rintro e w4_ ⟨rfl, hE4⟩
      refine hK.out _ _ (((hE1.trans hE2).trans hE3).trans hE4) (fun hHeld => ?_)
      clear hK K
      try simp only [Act.put, List.getElem_toArray, List.getElem_cons_succ, List.getElem_cons_zero, List.setIfInBounds_toArray, List.set_cons_zero, List.set_cons_succ]
      refine wpAnyH_take (i := 6) (v := ?_) rfl (by kernel_rfl) (by kernel_rfl) (by kernel_rfl) (fun _ _ _ h => h) (Or.inl ⟨by rfl, ?_⟩) (by assumption) ?_
      rotate_left
      · intro w9 h9
        go_simp
        try with_reducible rfl
      simp only [Act.put, List.getElem_toArray, List.getElem_cons_succ, List.getElem_cons_zero, List.setIfInBounds_toArray, List.set_cons_zero, List.set_cons_succ]
      refine wpAnyH_take (i := 7) (v := ?_) rfl (by kernel_rfl) (by kernel_rfl) (by kernel_rfl) (fun _ _ _ h => h) (Or.inl ⟨by rfl, ?_⟩) (by assumption) ?_
      rotate_left
      · intro w9 h9
        go_simp
        try with_reducible rfl
      simp only [Act.put, List.getElem_toArray, List.getElem_cons_succ, List.getElem_cons_zero, List.setIfInBounds_toArray, List.set_cons_zero, List.set_cons_succ]
      refine wpAnyH_take (i := 8) (v := ?_) rfl (by kernel_rfl) (by kernel_rfl) (by kernel_rfl) (fun _ _ _ h => h) (Or.inl ⟨by rfl, ?_⟩) (by assumption) ?_
      rotate_left
      · intro w9 h9
        go_simp
        try with_reducible rfl
      simp only [Act.put, List.getElem_toArray, List.getElem_cons_succ, List.getElem_cons_zero, List.setIfInBounds_toArray, List.set_cons_zero, List.set_cons_succ]
      refine wpAnyH_take (i := 12) rfl (by kernel_rfl) (by kernel_rfl) (by kernel_rfl) (fun _ _ _ h => h) (yieldsIf_load_row (by rfl) 26 _ rfl _ rfl 26 (pc f1 X1 Y1) (0, 0) _ (fun w9 (h9 : Ext W.drew w9) => ext_row h9 hr2) Try.underlying26 rfl (inP _ _ _)) (by assumption) ?_
      simp only [Act.put, List.getElem_toArray, List.getElem_cons_succ, List.getElem_cons_zero, List.setIfInBounds_toArray, List.set_cons_zero, List.set_cons_succ]
      refine wpAnyH_take (i := 13) rfl (by kernel_rfl) (by kernel_rfl) (by kernel_rfl) (fun _ _ _ h => h) (yieldsIf_load_row (by rfl) 26 _ rfl _ rfl 26 (pc f2 X2 Y2) (0, 0) _ (fun w9 (h9 : Ext W.drew w9) => ext_row h9 hr3) Try.underlying26 rfl (inP _ _ _)) (by assumption) ?_
      simp only [Act.put, List.getElem_toArray, List.getElem_cons_succ, List.getElem_cons_zero, List.setIfInBounds_toArray, List.set_cons_zero, List.set_cons_succ]
      refine wpAnyH_take (i := 14) rfl (by kernel_rfl) (by kernel_rfl) (by kernel_rfl) (fun _ _ _ h => h) (yieldsIf_eqlP (by rfl) _ _ rfl (pc f1 X1 Y1) (pc f2 X2 Y2) rfl rfl bb HQ.out) (by assumption) ?_
      simp only [Act.put, List.getElem_toArray, List.getElem_cons_succ, List.getElem_cons_zero, List.setIfInBounds_toArray, List.set_cons_zero, List.set_cons_succ]
      refine wpAnyH_ready (rs := [9, 10]) (by kernel_rfl) (by simp) ?_
      refine AllReadyH.cons rfl (fun K hK => ?_) (AllReadyH.cons rfl (fun K hK => ?_) AllReadyH.nil)
      · go_simp
        go_at_call 50
        refine (HU.out _ (hEW.trans (Ext.of_drew (((hE1.trans hE2).trans hE3).trans hE4)))).mono ?_
        rintro e w5_ ⟨b5, rfl, hE5, ht5⟩
        refine hK.out _ _ ((((hE1.trans hE2).trans hE3).trans hE4).trans hE5) (fun hHeld => ?_)
        clear hK K
        try simp only [Act.put, List.getElem_toArray, List.getElem_cons_succ, List.getElem_cons_zero, List.setIfInBounds_toArray, List.set_cons_zero, List.set_cons_succ]
        refine wpAnyH_ready (rs := [10]) (by kernel_rfl) (by simp) ?_
        refine AllReadyH.cons rfl (fun K hK => ?_) AllReadyH.nil
        go_simp
        have hE6 : Ext w5_ ((w5_).alloc (.cells #[.int .u8 0] 5)) := Ext.al _ _
        have hz6 : Held .u8 ((w5_).alloc (.cells #[.int .u8 0] 5)) (w5_).heap.size 0 [0] := held_one (heap_at _ _ _ rfl)
        have hzl6 : (w5_).heap.size < ((w5_).alloc (.cells #[.int .u8 0] 5)).heap.size := by rw [size_alloc]; exact Nat.lt_succ_self _
        have hzk6 := Lib.hid (And.intro hz6 hzl6)
        clear hz6 hzl6
        refine hK.out _ _ (((((hE1.trans hE2).trans hE3).trans hE4).trans hE5).trans hE6) (fun hHeld => ?_)
        clear hK K
        try simp only [Act.put, List.getElem_toArray, List.getElem_cons_succ, List.getElem_cons_zero, List.setIfInBounds_toArray, List.set_cons_zero, List.set_cons_succ]
        refine wpAnyH_ready (rs := [11]) (by kernel_rfl) (by simp) ?_
        refine AllReadyH.cons rfl (fun K hK => ?_) AllReadyH.nil
        go_simp
        go_at_call 25
        refine (HY.out _ _ _ (Ext.told hE6 ht5) (Ext.held (Ext.refl _) hzk6.out.2 hzk6.out.1)).mono ?_
        rintro e w7_ ⟨rfl, hE7⟩
        refine hK.out _ _ ((((((hE1.trans hE2).trans hE3).trans hE4).trans hE5).trans hE6).trans hE7) (fun hHeld => ?_)
        clear hK K
        try simp only [Act.put, List.getElem_toArray, List.getElem_cons_succ, List.getElem_cons_zero, List.setIfInBounds_toArray, List.set_cons_zero, List.set_cons_succ]
        refine wpAnyH_take (i := 15) (v := ?_) rfl (by kernel_rfl) (by kernel_rfl) (by kernel_rfl) (fun _ _ _ h => h) (Or.inl ⟨by rfl, ?_⟩) (by assumption) ?_
        rotate_left
        · intro w9 h9
          go_simp
          try with_reducible rfl
        simp only [Act.put, List.getElem_toArray, List.getElem_cons_succ, List.getElem_cons_zero, List.setIfInBounds_toArray, List.set_cons_zero, List.set_cons_succ]
        refine wpAnyH_take (i := 16) (v := ?_) rfl (by kernel_rfl) (by kernel_rfl) (by kernel_rfl) (fun _ _ _ h => h) (Or.inl ⟨by rfl, ?_⟩) (by assumption) ?_
        rotate_left
        · intro w9 h9
          go_simp
          try with_reducible rfl
        simp only [Act.put, List.getElem_toArray, List.getElem_cons_succ, List.getElem_cons_zero, List.setIfInBounds_toArray, List.set_cons_zero, List.set_cons_succ]
        refine wpAnyH_take (i := 17) (v := ?_) rfl (by kernel_rfl) (by kernel_rfl) (by kernel_rfl) (fun _ _ _ h => h) (Or.inl ⟨by rfl, ?_⟩) (by assumption) ?_
        rotate_left
        · intro w9 h9
          go_simp
          try with_reducible rfl
        simp only [Act.put, List.getElem_toArray, List.getElem_cons_succ, List.getElem_cons_zero, List.setIfInBounds_toArray, List.set_cons_zero, List.set_cons_succ]
        refine wpAnyH_done (by kernel_rfl) ?_ _
        go_wp2
        refine bodyPost_ret (v := .bool true) (by simp [results, Try.results18, go_sem]) rfl ⟨rfl, (hEW.trans (Ext.of_drew ((((((hE1.trans hE2).trans hE3).trans hE4).trans hE5).trans hE6).trans hE7))).below⟩
      · go_simp
        have hE5 : Ext w4_ ((w4_).alloc (.cells #[.int .u8 0] 5)) := Ext.al _ _
        have hz5 : Held .u8 ((w4_).alloc (.cells #[.int .u8 0] 5)) (w4_).heap.size 0 [0] := held_one (heap_at _ _ _ rfl)
        have hzl5 : (w4_).heap.size < ((w4_).alloc (.cells #[.int .u8 0] 5)).heap.size := by rw [size_alloc]; exact Nat.lt_succ_self _
        have hzk5 := Lib.hid (And.intro hz5 hzl5)
        clear hz5 hzl5
        refine hK.out _ _ ((((hE1.trans hE2).trans hE3).trans hE4).trans hE5) (fun hHeld => ?_)
        clear hK K
        try simp only [Act.put, List.getElem_toArray, List.getElem_cons_succ, List.getElem_cons_zero, List.setIfInBounds_toArray, List.set_cons_zero, List.set_cons_succ]
        refine wpAnyH_ready (rs := [9]) (by kernel_rfl) (by simp) ?_
        refine AllReadyH.cons rfl (fun K hK => ?_) AllReadyH.nil
        go_simp
        go_at_call 50
        refine (HU.out _ (hEW.trans (Ext.of_drew ((((hE1.trans hE2).trans hE3).trans hE4).trans hE5)))).mono ?_
        rintro e w6_ ⟨b6, rfl, hE6, ht6⟩
        refine hK.out _ _ (((((hE1.trans hE2).trans hE3).trans hE4).trans hE5).trans hE6) (fun hHeld => ?_)
        clear hK K
        try simp only [Act.put, List.getElem_toArray, List.getElem_cons_succ, List.getElem_cons_zero, List.setIfInBounds_toArray, List.set_cons_zero, List.set_cons_succ]
        refine wpAnyH_ready (rs := [11]) (by kernel_rfl) (by simp) ?_
        refine AllReadyH.cons rfl (fun K hK => ?_) AllReadyH.nil
        go_simp
        go_at_call 25
        refine (HY.out _ _ _ (Ext.told (Ext.refl _) ht6) (Ext.held hE6 hzk5.out.2 hzk5.out.1)).mono ?_
        rintro e w7_ ⟨rfl, hE7⟩
        refine hK.out _ _ ((((((hE1.trans hE2).trans hE3).trans hE4).trans hE5).trans hE6).trans hE7) (fun hHeld => ?_)
        clear hK K
        try simp only [Act.put, List.getElem_toArray, List.getElem_cons_succ, List.getElem_cons_zero, List.setIfInBounds_toArray, List.set_cons_zero, List.set_cons_succ]
        refine wpAnyH_take (i := 15) (v := ?_) rfl (by kernel_rfl) (by kernel_rfl) (by kernel_rfl) (fun _ _ _ h => h) (Or.inl ⟨by rfl, ?_⟩) (by assumption) ?_
        rotate_left
        · intro w9 h9
          go_simp
          try with_reducible rfl
        simp only [Act.put, List.getElem_toArray, List.getElem_cons_succ, List.getElem_cons_zero, List.setIfInBounds_toArray, List.set_cons_zero, List.set_cons_succ]
        refine wpAnyH_take (i := 16) (v := ?_) rfl (by kernel_rfl) (by kernel_rfl) (by kernel_rfl) (fun _ _ _ h => h) (Or.inl ⟨by rfl, ?_⟩) (by assumption) ?_
        rotate_left
        · intro w9 h9
          go_simp
          try with_reducible rfl
        simp only [Act.put, List.getElem_toArray, List.getElem_cons_succ, List.getElem_cons_zero, List.setIfInBounds_toArray, List.set_cons_zero, List.set_cons_succ]
        refine wpAnyH_take (i := 17) (v := ?_) rfl (by kernel_rfl) (by kernel_rfl) (by kernel_rfl) (fun _ _ _ h => h) (Or.inl ⟨by rfl, ?_⟩) (by assumption) ?_
        rotate_left
        · intro w9 h9
          go_simp
          try with_reducible rfl
        simp only [Act.put, List.getElem_toArray, List.getElem_cons_succ, List.getElem_cons_zero, List.setIfInBounds_toArray, List.set_cons_zero, List.set_cons_succ]
        refine wpAnyH_done (by kernel_rfl) ?_ _
        go_wp2
        refine bodyPost_ret (v := .bool true) (by simp [results, Try.results18, go_sem]) rfl ⟨rfl, (hEW.trans (Ext.of_drew ((((((hE1.trans hE2).trans hE3).trans hE4).trans hE5).trans hE6).trans hE7))).below⟩
    · go_simp
      have hE2 : Ext w1_ ((w1_).alloc (.cells #[.int .u8 0] 5)) := Ext.al _ _
      have hz2 : Held .u8 ((w1_).alloc (.cells #[.int .u8 0] 5)) (w1_).heap.size 0 [0] := held_one (heap_at _ _ _ rfl)
      have hzl2 : (w1_).heap.size < ((w1_).alloc (.cells #[.int .u8 0] 5)).heap.size := by rw [size_alloc]; exact Nat.lt_succ_self _
      have hzk2 := Lib.hid (And.intro hz2 hzl2)
      clear hz2 hzl2
      refine hK.out _ _ (hE1.trans hE2) (fun hHeld => ?_)
      clear hK K
      try simp only [Act.put, List.getElem_toArray, List.getElem_cons_succ, List.getElem_cons_zero, List.setIfInBounds_toArray, List.set_cons_zero, List.set_cons_succ]
      refine wpAnyH_ready (rs := [3]) (by kernel_rfl) (by simp) ?_
      refine AllReadyH.cons rfl (fun K hK => ?_) AllReadyH.nil
      go_simp
      go_at_call 50
      refine (HS.out _ _ _ (hEW.trans (Ext.of_drew (hE1.trans hE2))) (Ext.told hE2 ht1)).mono ?_
      rintro e w3_ ⟨b3, rfl, hE3, ht3⟩
      refine hK.out _ _ ((hE1.trans hE2).trans hE3) (fun hHeld => ?_)
      clear hK K
      try simp only [Act.put, List.getElem_toArray, List.getElem_cons_succ, List.getElem_cons_zero, List.setIfInBounds_toArray, List.set_cons_zero, List.set_cons_succ]
      refine wpAnyH_ready (rs := [5]) (by kernel_rfl) (by simp) ?_
      refine AllReadyH.cons rfl (fun K hK => ?_) AllReadyH.nil
      go_simp
      go_at_call 25
      refine (HZ.out _ _ _ (Ext.told (Ext.refl _) ht3) (Ext.held hE3 hzk2.out.2 hzk2.out.1)).mono ?_
      rintro e w4_ ⟨rfl, hE4⟩
      refine hK.out _ _ (((hE1.trans hE2).trans hE3).trans hE4) (fun hHeld => ?_)
      clear hK K
      try simp only [Act.put, List.getElem_toArray, List.getElem_cons_succ, List.getElem_cons_zero, List.setIfInBounds_toArray, List.set_cons_zero, List.set_cons_succ]
      refine wpAnyH_take (i := 6) (v := ?_) rfl (by kernel_rfl) (by kernel_rfl) (by kernel_rfl) (fun _ _ _ h => h) (Or.inl ⟨by rfl, ?_⟩) (by assumption) ?_
      rotate_left
      · intro w9 h9
        go_simp
        try with_reducible rfl
      simp only [Act.put, List.getElem_toArray, List.getElem_cons_succ, List.getElem_cons_zero, List.setIfInBounds_toArray, List.set_cons_zero, List.set_cons_succ]
      refine wpAnyH_take (i := 7) (v := ?_) rfl (by kernel_rfl) (by kernel_rfl) (by kernel_rfl) (fun _ _ _ h => h) (Or.inl ⟨by rfl, ?_⟩) (by assumption) ?_
      rotate_left
      · intro w9 h9
        go_simp
        try with_reducible rfl
      simp only [Act.put, List.getElem_toArray, List.getElem_cons_succ, List.getElem_cons_zero, List.setIfInBounds_toArray, List.set_cons_zero, List.set_cons_succ]
      refine wpAnyH_take (i := 8) (v := ?_) rfl (by kernel_rfl) (by kernel_rfl) (by kernel_rfl) (fun _ _ _ h => h) (Or.inl ⟨by rfl, ?_⟩) (by assumption) ?_
      rotate_left
      · intro w9 h9
        go_simp
        try with_reducible rfl
      simp only [Act.put, List.getElem_toArray, List.getElem_cons_succ, List.getElem_cons_zero, List.setIfInBounds_toArray, List.set_cons_zero, List.set_cons_succ]
      refine wpAnyH_take (i := 12) rfl (by kernel_rfl) (by kernel_rfl) (by kernel_rfl) (fun _ _ _ h => h) (yieldsIf_load_row (by rfl) 26 _ rfl _ rfl 26 (pc f1 X1 Y1) (0, 0) _ (fun w9 (h9 : Ext W.drew w9) => ext_row h9 hr2) Try.underlying26 rfl (inP _ _ _)) (by assumption) ?_
      simp only [Act.put, List.getElem_toArray, List.getElem_cons_succ, List.getElem_cons_zero, List.setIfInBounds_toArray, List.set_cons_zero, List.set_cons_succ]
      refine wpAnyH_take (i := 13) rfl (by kernel_rfl) (by kernel_rfl) (by kernel_rfl) (fun _ _ _ h => h) (yieldsIf_load_row (by rfl) 26 _ rfl _ rfl 26 (pc f2 X2 Y2) (0, 0) _ (fun w9 (h9 : Ext W.drew w9) => ext_row h9 hr3) Try.underlying26 rfl (inP _ _ _)) (by assumption) ?_
      simp only [Act.put, List.getElem_toArray, List.getElem_cons_succ, List.getElem_cons_zero, List.setIfInBounds_toArray, List.set_cons_zero, List.set_cons_succ]
      refine wpAnyH_take (i := 14) rfl (by kernel_rfl) (by kernel_rfl) (by kernel_rfl) (fun _ _ _ h => h) (yieldsIf_eqlP (by rfl) _ _ rfl (pc f1 X1 Y1) (pc f2 X2 Y2) rfl rfl bb HQ.out) (by assumption) ?_
      simp only [Act.put, List.getElem_toArray, List.getElem_cons_succ, List.getElem_cons_zero, List.setIfInBounds_toArray, List.set_cons_zero, List.set_cons_succ]
      refine wpAnyH_ready (rs := [9, 10]) (by kernel_rfl) (by simp) ?_
      refine AllReadyH.cons rfl (fun K hK => ?_) (AllReadyH.cons rfl (fun K hK => ?_) AllReadyH.nil)
      · go_simp
        go_at_call 50
        refine (HU.out _ (hEW.trans (Ext.of_drew (((hE1.trans hE2).trans hE3).trans hE4)))).mono ?_
        rintro e w5_ ⟨b5, rfl, hE5, ht5⟩
        refine hK.out _ _ ((((hE1.trans hE2).trans hE3).trans hE4).trans hE5) (fun hHeld => ?_)
        clear hK K
        try simp only [Act.put, List.getElem_toArray, List.getElem_cons_succ, List.getElem_cons_zero, List.setIfInBounds_toArray, List.set_cons_zero, List.set_cons_succ]
        refine wpAnyH_ready (rs := [10]) (by kernel_rfl) (by simp) ?_
        refine AllReadyH.cons rfl (fun K hK => ?_) AllReadyH.nil
        go_simp
        have hE6 : Ext w5_ ((w5_).alloc (.cells #[.int .u8 0] 5)) := Ext.al _ _
        have hz6 : Held .u8 ((w5_).alloc (.cells #[.int .u8 0] 5)) (w5_).heap.size 0 [0] := held_one (heap_at _ _ _ rfl)
        have hzl6 : (w5_).heap.size < ((w5_).alloc (.cells #[.int .u8 0] 5)).heap.size := by rw [size_alloc]; exact Nat.lt_succ_self _
        have hzk6 := Lib.hid (And.intro hz6 hzl6)
        clear hz6 hzl6
        refine hK.out _ _ (((((hE1.trans hE2).trans hE3).trans hE4).trans hE5).trans hE6) (fun hHeld => ?_)
        clear hK K
        try simp only [Act.put, List.getElem_toArray, List.getElem_cons_succ, List.getElem_cons_zero, List.setIfInBounds_toArray, List.set_cons_zero, List.set_cons_succ]
        refine wpAnyH_ready (rs := [11]) (by kernel_rfl) (by simp) ?_
        refine AllReadyH.cons rfl (fun K hK => ?_) AllReadyH.nil
        go_simp
        go_at_call 25
        refine (HY.out _ _ _ (Ext.told hE6 ht5) (Ext.held (Ext.refl _) hzk6.out.2 hzk6.out.1)).mono ?_
        rintro e w7_ ⟨rfl, hE7⟩
        refine hK.out _ _ ((((((hE1.trans hE2).trans hE3).trans hE4).trans hE5).trans hE6).trans hE7) (fun hHeld => ?_)
        clear hK K
        try simp only [Act.put, List.getElem_toArray, List.getElem_cons_succ, List.getElem_cons_zero, List.setIfInBounds_toArray, List.set_cons_zero, List.set_cons_succ]
        refine wpAnyH_take (i := 15) (v := ?_) rfl (by kernel_rfl) (by kernel_rfl) (by kernel_rfl) (fun _ _ _ h => h) (Or.inl ⟨by rfl, ?_⟩) (by assumption) ?_
        rotate_left
        · intro w9 h9
          go_simp
          try with_reducible rfl
        simp only [Act.put, List.getElem_toArray, List.getElem_cons_succ, List.getElem_cons_zero, List.setIfInBounds_toArray, List.set_cons_zero, List.set_cons_succ]
        refine wpAnyH_take (i := 16) (v := ?_) rfl (by kernel_rfl) (by kernel_rfl) (by kernel_rfl) (fun _ _ _ h => h) (Or.inl ⟨by rfl, ?_⟩) (by assumption) ?_
        rotate_left
        · intro w9 h9
          go_simp
          try with_reducible rfl
        simp only [Act.put, List.getElem_toArray, List.getElem_cons_succ, List.getElem_cons_zero, List.setIfInBounds_toArray, List.set_cons_zero, List.set_cons_succ]
        refine wpAnyH_take (i := 17) (v := ?_) rfl (by kernel_rfl) (by kernel_rfl) (by kernel_rfl) (fun _ _ _ h => h) (Or.inl ⟨by rfl, ?_⟩) (by assumption) ?_
        rotate_left
        · intro w9 h9
          go_simp
          try with_reducible rfl
        simp only [Act.put, List.getElem_toArray, List.getElem_cons_succ, List.getElem_cons_zero, List.setIfInBounds_toArray, List.set_cons_zero, List.set_cons_succ]
        refine wpAnyH_done (by kernel_rfl) ?_ _
        go_wp2
        refine bodyPost_ret (v := .bool true) (by simp [results, Try.results18, go_sem]) rfl ⟨rfl, (hEW.trans (Ext.of_drew ((((((hE1.trans hE2).trans hE3).trans hE4).trans hE5).trans hE6).trans hE7))).below⟩
      · go_simp
        have hE5 : Ext w4_ ((w4_).alloc (.cells #[.int .u8 0] 5)) := Ext.al _ _
        have hz5 : Held .u8 ((w4_).alloc (.cells #[.int .u8 0] 5)) (w4_).heap.size 0 [0] := held_one (heap_at _ _ _ rfl)
        have hzl5 : (w4_).heap.size < ((w4_).alloc (.cells #[.int .u8 0] 5)).heap.size := by rw [size_alloc]; exact Nat.lt_succ_self _
        have hzk5 := Lib.hid (And.intro hz5 hzl5)
        clear hz5 hzl5
        refine hK.out _ _ ((((hE1.trans hE2).trans hE3).trans hE4).trans hE5) (fun hHeld => ?_)
        clear hK K
        try simp only [Act.put, List.getElem_toArray, List.getElem_cons_succ, List.getElem_cons_zero, List.setIfInBounds_toArray, List.set_cons_zero, List.set_cons_succ]
        refine wpAnyH_ready (rs := [9]) (by kernel_rfl) (by simp) ?_
        refine AllReadyH.cons rfl (fun K hK => ?_) AllReadyH.nil
        go_simp
        go_at_call 50
        refine (HU.out _ (hEW.trans (Ext.of_drew ((((hE1.trans hE2).trans hE3).trans hE4).trans hE5)))).mono ?_
        rintro e w6_ ⟨b6, rfl, hE6, ht6⟩
        refine hK.out _ _ (((((hE1.trans hE2).trans hE3).trans hE4).trans hE5).trans hE6) (fun hHeld => ?_)
        clear hK K
        try simp only [Act.put, List.getElem_toArray, List.getElem_cons_succ, List.getElem_cons_zero, List.setIfInBounds_toArray, List.set_cons_zero, List.set_cons_succ]
        refine wpAnyH_ready (rs := [11]) (by kernel_rfl) (by simp) ?_
        refine AllReadyH.cons rfl (fun K hK => ?_) AllReadyH.nil
        go_simp
        go_at_call 25
        refine (HY.out _ _ _ (Ext.told (Ext.refl _) ht6) (Ext.held hE6 hzk5.out.2 hzk5.out.1)).mono ?_
        rintro e w7_ ⟨rfl, hE7⟩
        refine hK.out _ _ ((((((hE1.trans hE2).trans hE3).trans hE4).trans hE5).trans hE6).trans hE7) (fun hHeld => ?_)
        clear hK K
        try simp only [Act.put, List.getElem_toArray, List.getElem_cons_succ, List.getElem_cons_zero, List.setIfInBounds_toArray, List.set_cons_zero, List.set_cons_succ]
        refine wpAnyH_take (i := 15) (v := ?_) rfl (by kernel_rfl) (by kernel_rfl) (by kernel_rfl) (fun _ _ _ h => h) (Or.inl ⟨by rfl, ?_⟩) (by assumption) ?_
        rotate_left
        · intro w9 h9
          go_simp
          try with_reducible rfl
        simp only [Act.put, List.getElem_toArray, List.getElem_cons_succ, List.getElem_cons_zero, List.setIfInBounds_toArray, List.set_cons_zero, List.set_cons_succ]
        refine wpAnyH_take (i := 16) (v := ?_) rfl (by kernel_rfl) (by kernel_rfl) (by kernel_rfl) (fun _ _ _ h => h) (Or.inl ⟨by rfl, ?_⟩) (by assumption) ?_
        rotate_left
        · intro w9 h9
          go_simp
          try with_reducible rfl
        simp only [Act.put, List.getElem_toArray, List.getElem_cons_succ, List.getElem_cons_zero, List.setIfInBounds_toArray, List.set_cons_zero, List.set_cons_succ]
        refine wpAnyH_take (i := 17) (v := ?_) rfl (by kernel_rfl) (by kernel_rfl) (by kernel_rfl) (fun _ _ _ h => h) (Or.inl ⟨by rfl, ?_⟩) (by assumption) ?_
        rotate_left
        · intro w9 h9
          go_simp
          try with_reducible rfl
        simp only [Act.put, List.getElem_toArray, List.getElem_cons_succ, List.getElem_cons_zero, List.setIfInBounds_toArray, List.set_cons_zero, List.set_cons_succ]
        refine wpAnyH_done (by kernel_rfl) ?_ _
        go_wp2
        refine bodyPost_ret (v := .bool true) (by simp [results, Try.results18, go_sem]) rfl ⟨rfl, (hEW.trans (Ext.of_drew ((((((hE1.trans hE2).trans hE3).trans hE4).trans hE5).trans hE6).trans hE7))).below⟩
  · go_simp
    have hE1 : Ext W.drew ((W.drew).alloc (.cells #[.int .u8 0] 5)) := Ext.al _ _
    have hz1 : Held .u8 ((W.drew).alloc (.cells #[.int .u8 0] 5)) (W.drew).heap.size 0 [0] := held_one (heap_at _ _ _ rfl)
    have hzl1 : (W.drew).heap.size < ((W.drew).alloc (.cells #[.int .u8 0] 5)).heap.size := by rw [size_alloc]; exact Nat.lt_succ_self _
    have hzk1 := Lib.hid (And.intro hz1 hzl1)
    clear hz1 hzl1
    refine hK.out _ _ hE1 (fun hHeld => ?_)
    clear hK K
    try simp only [Act.put, List.getElem_toArray, List.getElem_cons_succ, List.getElem_cons_zero, List.setIfInBounds_toArray, List.set_cons_zero, List.set_cons_succ]
    refine wpAnyH_ready (rs := [2]) (by kernel_rfl) (by simp) ?_
    refine AllReadyH.cons rfl (fun K hK => ?_) AllReadyH.nil
    go_simp
    go_at_call 26
    refine (HW.out _).mono ?_
    rintro e w2_ ⟨b2, kk2, rfl, hE2, ht2⟩
    refine hK.out _ _ (hE1.trans hE2) (fun hHeld => ?_)
    clear hK K
    try simp only [Act.put, List.getElem_toArray, List.getElem_cons_succ, List.getElem_cons_zero, List.setIfInBounds_toArray, List.set_cons_zero, List.set_cons_succ]
    refine wpAnyH_ready (rs := [3]) (by kernel_rfl) (by simp) ?_
    refine AllReadyH.cons rfl (fun K hK => ?_) AllReadyH.nil
    go_simp
    go_at_call 50
    refine (HS.out _ _ _ (hEW.trans (Ext.of_drew (hE1.trans hE2))) (Ext.told (Ext.refl _) ht2)).mono ?_
    rintro e w3_ ⟨b3, rfl, hE3, ht3⟩
    refine hK.out _ _ ((hE1.trans hE2).trans hE3) (fun hHeld => ?_)
    clear hK K
    try simp only [Act.put, List.getElem_toArray, List.getElem_cons_succ, List.getElem_cons_zero, List.setIfInBounds_toArray, List.set_cons_zero, List.set_cons_succ]
    refine wpAnyH_ready (rs := [5]) (by kernel_rfl) (by simp) ?_
    refine AllReadyH.cons rfl (fun K hK => ?_) AllReadyH.nil
    go_simp
    go_at_call 25
    refine (HZ.out _ _ _ (Ext.told (Ext.refl _) ht3) (Ext.held (hE2.trans hE3) hzk1.out.2 hzk1.out.1)).mono ?_
    rintro e w4_ ⟨rfl, hE4⟩
    refine hK.out _ _ (((hE1.trans hE2).trans hE3).trans hE4) (fun hHeld => ?_)
    clear hK K
    try simp only [Act.put, List.getElem_toArray, List.getElem_cons_succ, List.getElem_cons_zero, List.setIfInBounds_toArray, List.set_cons_zero, List.set_cons_succ]
    refine wpAnyH_take (i := 6) (v := ?_) rfl (by kernel_rfl) (by kernel_rfl) (by kernel_rfl) (fun _ _ _ h => h) (Or.inl ⟨by rfl, ?_⟩) (by assumption) ?_
    rotate_left
    · intro w9 h9
      go_simp
      try with_reducible rfl
    simp only [Act.put, List.getElem_toArray, List.getElem_cons_succ, List.getElem_cons_zero, List.setIfInBounds_toArray, List.set_cons_zero, List.set_cons_succ]
    refine wpAnyH_take (i := 7) (v := ?_) rfl (by kernel_rfl) (by kernel_rfl) (by kernel_rfl) (fun _ _ _ h => h) (Or.inl ⟨by rfl, ?_⟩) (by assumption) ?_
    rotate_left
    · intro w9 h9
      go_simp
      try with_reducible rfl
    simp only [Act.put, List.getElem_toArray, List.getElem_cons_succ, List.getElem_cons_zero, List.setIfInBounds_toArray, List.set_cons_zero, List.set_cons_succ]
    refine wpAnyH_take (i := 8) (v := ?_) rfl (by kernel_rfl) (by kernel_rfl) (by kernel_rfl) (fun _ _ _ h => h) (Or.inl ⟨by rfl, ?_⟩) (by assumption) ?_
    rotate_left
    · intro w9 h9
      go_simp
      try with_reducible rfl
    simp only [Act.put, List.getElem_toArray, List.getElem_cons_succ, List.getElem_cons_zero, List.setIfInBounds_toArray, List.set_cons_zero, List.set_cons_succ]
    refine wpAnyH_take (i := 12) rfl (by kernel_rfl) (by kernel_rfl) (by kernel_rfl) (fun _ _ _ h => h) (yieldsIf_load_row (by rfl) 26 _ rfl _ rfl 26 (pc f1 X1 Y1) (0, 0) _ (fun w9 (h9 : Ext W.drew w9) => ext_row h9 hr2) Try.underlying26 rfl (inP _ _ _)) (by assumption) ?_
    simp only [Act.put, List.getElem_toArray, List.getElem_cons_succ, List.getElem_cons_zero, List.setIfInBounds_toArray, List.set_cons_zero, List.set_cons_succ]
    refine wpAnyH_take (i := 13) rfl (by kernel_rfl) (by kernel_rfl) (by kernel_rfl) (fun _ _ _ h => h) (yieldsIf_load_row (by rfl) 26 _ rfl _ rfl 26 (pc f2 X2 Y2) (0, 0) _ (fun w9 (h9 : Ext W.drew w9) => ext_row h9 hr3) Try.underlying26 rfl (inP _ _ _)) (by assumption) ?_
    simp only [Act.put, List.getElem_toArray, List.getElem_cons_succ, List.getElem_cons_zero, List.setIfInBounds_toArray, List.set_cons_zero, List.set_cons_succ]
    refine wpAnyH_take (i := 14) rfl (by kernel_rfl) (by kernel_rfl) (by kernel_rfl) (fun _ _ _ h => h) (yieldsIf_eqlP (by rfl) _ _ rfl (pc f1 X1 Y1) (pc f2 X2 Y2) rfl rfl bb HQ.out) (by assumption) ?_
    simp only [Act.put, List.getElem_toArray, List.getElem_cons_succ, List.getElem_cons_zero, List.setIfInBounds_toArray, List.set_cons_zero, List.set_cons_succ]
    refine wpAnyH_ready (rs := [9, 10]) (by kernel_rfl) (by simp) ?_
    refine AllReadyH.cons rfl (fun K hK => ?_) (AllReadyH.cons rfl (fun K hK => ?_) AllReadyH.nil)
    · go_simp
      go_at_call 50
      refine (HU.out _ (hEW.trans (Ext.of_drew (((hE1.trans hE2).trans hE3).trans hE4)))).mono ?_
      rintro e w5_ ⟨b5, rfl, hE5, ht5⟩
      refine hK.out _ _ ((((hE1.trans hE2).trans hE3).trans hE4).trans hE5) (fun hHeld => ?_)
      clear hK K
      try simp only [Act.put, List.getElem_toArray, List.getElem_cons_succ, List.getElem_cons_zero, List.setIfInBounds_toArray, List.set_cons_zero, List.set_cons_succ]
      refine wpAnyH_ready (rs := [10]) (by kernel_rfl) (by simp) ?_
      refine AllReadyH.cons rfl (fun K hK => ?_) AllReadyH.nil
      go_simp
      have hE6 : Ext w5_ ((w5_).alloc (.cells #[.int .u8 0] 5)) := Ext.al _ _
      have hz6 : Held .u8 ((w5_).alloc (.cells #[.int .u8 0] 5)) (w5_).heap.size 0 [0] := held_one (heap_at _ _ _ rfl)
      have hzl6 : (w5_).heap.size < ((w5_).alloc (.cells #[.int .u8 0] 5)).heap.size := by rw [size_alloc]; exact Nat.lt_succ_self _
      have hzk6 := Lib.hid (And.intro hz6 hzl6)
      clear hz6 hzl6
      refine hK.out _ _ (((((hE1.trans hE2).trans hE3).trans hE4).trans hE5).trans hE6) (fun hHeld => ?_)
      clear hK K
      try simp only [Act.put, List.getElem_toArray, List.getElem_cons_succ, List.getElem_cons_zero, List.setIfInBounds_toArray, List.set_cons_zero, List.set_cons_succ]
      refine wpAnyH_ready (rs := [11]) (by kernel_rfl) (by simp) ?_
      refine AllReadyH.cons rfl (fun K hK => ?_) AllReadyH.nil
      go_simp
      go_at_call 25
      refine (HY.out _ _ _ (Ext.told hE6 ht5) (Ext.held (Ext.refl _) hzk6.out.2 hzk6.out.1)).mono ?_
      rintro e w7_ ⟨rfl, hE7⟩
      refine hK.out _ _ ((((((hE1.trans hE2).trans hE3).trans hE4).trans hE5).trans hE6).trans hE7) (fun hHeld => ?_)
      clear hK K
      try simp only [Act.put, List.getElem_toArray, List.getElem_cons_succ, List.getElem_cons_zero, List.setIfInBounds_toArray, List.set_cons_zero, List.set_cons_succ]
      refine wpAnyH_take (i := 15) (v := ?_) rfl (by kernel_rfl) (by kernel_rfl) (by kernel_rfl) (fun _ _ _ h => h) (Or.inl ⟨by rfl, ?_⟩) (by assumption) ?_
      rotate_left
      · intro w9 h9
        go_simp
        try with_reducible rfl
      simp only [Act.put, List.getElem_toArray, List.getElem_cons_succ, List.getElem_cons_zero, List.setIfInBounds_toArray, List.set_cons_zero, List.set_cons_succ]
      refine wpAnyH_take (i := 16) (v := ?_) rfl (by kernel_rfl) (by kernel_rfl) (by kernel_rfl) (fun _ _ _ h => h) (Or.inl ⟨by rfl, ?_⟩) (by assumption) ?_
      rotate_left
      · intro w9 h9
        go_simp
        try with_reducible rfl
      simp only [Act.put, List.getElem_toArray, List.getElem_cons_succ, List.getElem_cons_zero, List.setIfInBounds_toArray, List.set_cons_zero, List.set_cons_succ]
      refine wpAnyH_take (i := 17) (v := ?_) rfl (by kernel_rfl) (by kernel_rfl) (by kernel_rfl) (fun _ _ _ h => h) (Or.inl ⟨by rfl, ?_⟩) (by assumption) ?_
      rotate_left
      · intro w9 h9
        go_simp
        try with_reducible rfl
      simp only [Act.put, List.getElem_toArray, List.getElem_cons_succ, List.getElem_cons_zero, List.setIfInBounds_toArray, List.set_cons_zero, List.set_cons_succ]
      refine wpAnyH_done (by kernel_rfl) ?_ _
      go_wp2
      refine bodyPost_ret (v := .bool true) (by simp [results, Try.results18, go_sem]) rfl ⟨rfl, (hEW.trans (Ext.of_drew ((((((hE1.trans hE2).trans hE3).trans hE4).trans hE5).trans hE6).trans hE7))).below⟩
    · go_simp
      have hE5 : Ext w4_ ((w4_).alloc (.cells #[.int .u8 0] 5)) := Ext.al _ _
      have hz5 : Held .u8 ((w4_).alloc (.cells #[.int .u8 0] 5)) (w4_).heap.size 0 [0] := held_one (heap_at _ _ _ rfl)
      have hzl5 : (w4_).heap.size < ((w4_).alloc (.cells #[.int .u8 0] 5)).heap.size := by rw [size_alloc]; exact Nat.lt_succ_self _
      have hzk5 := Lib.hid (And.intro hz5 hzl5)
      clear hz5 hzl5
      refine hK.out _ _ ((((hE1.trans hE2).trans hE3).trans hE4).trans hE5) (fun hHeld => ?_)
      clear hK K
      try simp only [Act.put, List.getElem_toArray, List.getElem_cons_succ, List.getElem_cons_zero, List.setIfInBounds_toArray, List.set_cons_zero, List.set_cons_succ]
      refine wpAnyH_ready (rs := [9]) (by kernel_rfl) (by simp) ?_
      refine AllReadyH.cons rfl (fun K hK => ?_) AllReadyH.nil
      go_simp
      go_at_call 50
      refine (HU.out _ (hEW.trans (Ext.of_drew ((((hE1.trans hE2).trans hE3).trans hE4).trans hE5)))).mono ?_
      rintro e w6_ ⟨b6, rfl, hE6, ht6⟩
      refine hK.out _ _ (((((hE1.trans hE2).trans hE3).trans hE4).trans hE5).trans hE6) (fun hHeld => ?_)
      clear hK K
      try simp only [Act.put, List.getElem_toArray, List.getElem_cons_succ, List.getElem_cons_zero, List.setIfInBounds_toArray, List.set_cons_zero, List.set_cons_succ]
      refine wpAnyH_ready (rs := [11]) (by kernel_rfl) (by simp) ?_
      refine AllReadyH.cons rfl (fun K hK => ?_) AllReadyH.nil
      go_simp
      go_at_call 25
      refine (HY.out _ _ _ (Ext.told (Ext.refl _) ht6) (Ext.held hE6 hzk5.out.2 hzk5.out.1)).mono ?_
      rintro e w7_ ⟨rfl, hE7⟩
      refine hK.out _ _ ((((((hE1.trans hE2).trans hE3).trans hE4).trans hE5).trans hE6).trans hE7) (fun hHeld => ?_)
      clear hK K
      try simp only [Act.put, List.getElem_toArray, List.getElem_cons_succ, List.getElem_cons_zero, List.setIfInBounds_toArray, List.set_cons_zero, List.set_cons_succ]
      refine wpAnyH_take (i := 15) (v := ?_) rfl (by kernel_rfl) (by kernel_rfl) (by kernel_rfl) (fun _ _ _ h => h) (Or.inl ⟨by rfl, ?_⟩) (by assumption) ?_
      rotate_left
      · intro w9 h9
        go_simp
        try with_reducible rfl
      simp only [Act.put, List.getElem_toArray, List.getElem_cons_succ, List.getElem_cons_zero, List.setIfInBounds_toArray, List.set_cons_zero, List.set_cons_succ]
      refine wpAnyH_take (i := 16) (v := ?_) rfl (by kernel_rfl) (by kernel_rfl) (by kernel_rfl) (fun _ _ _ h => h) (Or.inl ⟨by rfl, ?_⟩) (by assumption) ?_
      rotate_left
      · intro w9 h9
        go_simp
        try with_reducible rfl
      simp only [Act.put, List.getElem_toArray, List.getElem_cons_succ, List.getElem_cons_zero, List.setIfInBounds_toArray, List.set_cons_zero, List.set_cons_succ]
      refine wpAnyH_take (i := 17) (v := ?_) rfl (by kernel_rfl) (by kernel_rfl) (by kernel_rfl) (fun _ _ _ h => h) (Or.inl ⟨by rfl, ?_⟩) (by assumption) ?_
      rotate_left
      · intro w9 h9
        go_simp
        try with_reducible rfl
      simp only [Act.put, List.getElem_toArray, List.getElem_cons_succ, List.getElem_cons_zero, List.setIfInBounds_toArray, List.set_cons_zero, List.set_cons_succ]
      refine wpAnyH_done (by kernel_rfl) ?_ _
      go_wp2
      refine bodyPost_ret (v := .bool true) (by simp [results, Try.results18, go_sem]) rfl ⟨rfl, (hEW.trans (Ext.of_drew ((((((hE1.trans hE2).trans hE3).trans hE4).trans hE5).trans hE6).trans hE7))).below⟩
theorem walk (a0 : Option Addr) (n0 k0 : Nat) (a1 : Option Addr) (n1 k1 : Nat) (w : World) (hs0 : (2147483647 : Int) < n0 ∨ Bd w a0 n0 k0 ∨ ∃ P, Gd w a0 n0 k0 P) (hs1 : (2147483647 : Int) < n1 ∨ Bd w a1 n1 k1 ∨ ∃ P, Gd w a1 n1 k1 P) :
    Calls Try.prog 18 #[.slice a0 n0 k0, .slice a1 n1 k1] w fun e w' => e = .returned (.bool true) ∧ Below w.heap.size w w' := by
  by_cases hb0 : (2147483647 : Int) < n0
  · exact big0 a0 n0 k0 a1 n1 k1 hb0 w
  replace hs0 := hs0.resolve_left hb0
  by_cases hb1 : (2147483647 : Int) < n1
  · exact big1 a0 n0 k0 a1 n1 k1 hb0 hb1 w
  replace hs1 := hs1.resolve_left hb1
  have hR1' : ∃ f1 X1 Y1 t1, ∀ w1, Ext w w1 → Calls Try.prog 22 #[.slice a1 n1 k1] w1 fun e w2 => e = .returned (.tuple #[.agg (pc f1 X1 Y1), .bool t1]) ∧ Ext w1 w2 := by
    rcases hs1 with h | ⟨P, h⟩
    · obtain ⟨f, X, Y, hR⟩ := h.read
      exact ⟨f, X, Y, false, hR⟩
    · obtain ⟨f, X, Y, hpv⟩ := pv_row P
      have hR := h.read
      rw [hpv] at hR
      exact ⟨f, X, Y, true, hR⟩
  rcases hs0 with h0 | ⟨P0, h0⟩
  · obtain ⟨f0, X0, Y0, hR0⟩ := h0.read
    obtain ⟨f1, X1, Y1, t1, hR1⟩ := hR1'
    exact no0 a0 n0 k0 a1 n1 k1 f0 X0 Y0 f1 X1 Y1 t1 hb0 hb1 w hR0 hR1
  clear hR1'
  have hon0 := h0.on
  have hR0 := h0.read
  obtain ⟨f0, X0, Y0, hpv0⟩ := pv_row P0
  rw [hpv0] at hR0
  rcases hs1 with h1 | ⟨P1, h1⟩
  · obtain ⟨f1, X1, Y1, hR1⟩ := h1.read
    exact no1 a0 n0 k0 a1 n1 k1 f0 X0 Y0 f1 X1 Y1 hb0 hb1 w hR0 hR1
  have hon1 := h1.on
  have hR1 := h1.read
  obtain ⟨f1, X1, Y1, hpv1⟩ := pv_row P1
  rw [hpv1] at hR1
  obtain ⟨f2, X2, Y2, hpv2⟩ := pv_row (pneg P0)
  have hO := Opposite_any P0
  have hW := written_told (pneg P0) (pneg_on hon0)
  have hS := fun g k w' (hE : Ext w w') (ht : Told w' g (pneg P0)) => sum_told a0 n0 k0 g k P0 (pneg P0) w' (hE.gd h0) ht
  rw [psum_pneg P0 hon0] at hS
  have hiff : psum P0 P1 = .far ↔ P1 = pneg P0 := ⟨fun h => psum_far_iff hon0 hon1 h, fun h => by rw [h]; exact psum_pneg P0 hon0⟩
  obtain ⟨bb, hbb⟩ : ∃ bb : Bool, P1 = pneg P0 ↔ bb = true := by
    by_cases h : P1 = pneg P0
    · exact ⟨true, fun _ => rfl, fun _ => h⟩
    · exact ⟨false, fun e => absurd e h, fun e => by cases e⟩
  have hQ := eql_pv P1 (pneg P0) bb hbb
  rw [hpv0, hpv2] at hO
  rw [hpv2] at hW
  rw [hpv1, hpv2] at hQ
  exact good a0 n0 k0 a1 n1 k1 (pneg P0) (psum P0 P1) bb f0 X0 Y0 f1 X1 Y1 f2 X2 Y2 hb0 hb1 w hR0 hR1 hO hW hS (fun w' hE => sum_any _ _ _ _ _ _ P0 P1 w' (hE.gd h0) (hE.gd h1)) (fun g c w' ht hz => same_zero g 65 c .far true (by simp) w' ht hz) (fun g c w' ht hz => same_zero g 65 c (psum P0 P1) bb (hiff.trans hbb) w' ht hz) hQ
theorem own : ownKnob Try.prog.godebug = none := by kernel_rfl
theorem laidOut : laidOutB Try.prog = true := by kernel_rfl

set_option maxRecDepth 100000 in
theorem lifted (os : Os) (started : os.Started) (H : Type) (enc : TypeId × Value → H) :
    ReturnsInHanded {} Try.checked os 18 .any (Rows.fnOppositeSpec.pre6 enc Try.prog Try.f18 Rows.fnOppositeRow.domain false) (Rows.fnOppositeSpec.post enc Try.prog Try.f18 false true false false) := by
  refine returnsInHanded_of_change (C := Try.checked) own started (by kernel_rfl) Try.func18
    (ChangeSpec.witness6 (enc := enc) (C := Try.checked) false ⟨#[], #[.slice none 0 0, .slice none 0 0], []⟩ 8 (by kernel_rfl) (by kernel_rfl) (by kernel_rfl) (by kernel_rfl)) ?_
  intro W base args ds gs before hval0 hW _ _
  have hval : ∀ (j : Nat) t v, Try.f18.params[j]? = some t → args[j]? = some v → Value.okWide Try.prog W .any base t v := hval0
  have hW' := hW
  obtain ⟨p, q, hA0, _, rfl, _, _⟩ := hW
  have hA : DataW.TrodAll enc Try.prog W 0 (fun _ => true) true Try.f18.params.toList args.toList ds p := hA0
  rw [Try.params18] at hA hval
  obtain ⟨v0, vs0, d0, ds0, p0, q0, hargs, rfl, rfl, h0, r0⟩ := trodAll_cons hA
  obtain ⟨v1, vs1, d1, ds1, p1, q1, rfl, rfl, rfl, h1, r1⟩ := trodAll_cons r0
  obtain ⟨rfl, rfl, rfl⟩ := trodAll_nil r1
  obtain rfl : args = #[v0, v1] := by cases args; simp_all
  obtain ⟨a0, n0, k0, rfl, s0⟩ := bytes_in h0 (okWide_slice Try.underlying22 (hval 0 22 v0 rfl rfl))
  obtain ⟨a1, n1, k1, rfl, s1⟩ := bytes_in h1 (okWide_slice Try.underlying22 (hval 1 22 v1 rfl rfl))
  clear hA0 hval0
  refine (walk a0 n0 k0 a1 n1 k1 W s0 s1).mono fun e W' ⟨he, hg⟩ => ?_
  subst he
  exact ⟨_, rfl, law_post laidOut hW' rfl rfl Try.underlying4 rfl (by kernel_rfl) hg⟩

theorem closed : joinedFacts Try.pinned.checked.prog 18 Try.f18 Rows.fnOppositeSpec Rows.fnOppositeRow = true := closed_of (by kernel_rfl)
theorem over : Rows.fnOppositeRow.holds Try.pinned (OpenSpec.ofChange Rows.fnOppositeSpec) :=
  OpenClaim.holds_of_wide 18 Try.f18 rfl rfl rfl rfl rfl rfl rfl ⟨rfl, rfl, rfl, rfl, rfl⟩ rfl rfl rfl rfl rfl (by kernel_rfl) Try.func18 closed
    (of_decide_eq_true (by kernel_rfl)) (by unfold Func.isWrapper; first | (rw [if_pos (by decide +kernel)]; kernel_rfl) | (rw [if_neg (by decide +kernel)]; exact ⟨rfl, rfl⟩))
    (fun os started H enc _ => lifted os started H enc)

/-- THE STATEMENT. -/
theorem proved : Rows.FnOppositeSaid :=
  over
#print axioms proved
end Go.Proofs.Ytmepgkcijeobkaa.fnOpposite
