/-
  What FnSharedSide says: two points with the same first coordinate are told with the same one.
  Conditions: none.
-/
import Derived.Test.YtmepgkcijeobkaaRows
import Derived.Test.YtmepgkcijeobkaaFin
import Derived.Test.YtmepgkcijeobkaaRdaLaw0
import Derived.Test.YtmepgkcijeobkaaByx
import Derived.WalkKit
import Derived.WalkSpells
import Derived.Outline
import Derived.ProofKit
import Derived.OpenShut
namespace Go.Proofs.Ytmepgkcijeobkaa.fnSharedSide
open Go Go.ChangeShapes Go.WideShapes Go.ChangeAt Go.RowKit Ecp
set_option linter.unusedSimpArgs false
set_option linter.unusedVariables false

set_option maxHeartbeats 4000000 in
set_option maxRecDepth 100000 in
theorem big0 (a0 : Option Addr) (n0 k0 : Nat) (hn0 : (2147483647 : Int) < n0) (w : World)  :
    Calls Try.prog 4 #[.slice a0 n0 k0] w fun e w' => e = .returned (.bool true) ∧ Below w.heap.size w w' := by
  go_enter Try.func4, Try.ntmps4
  go_wp2_with (first | (first | (refine wpList_load_rowW rfl 26 _ rfl _ rfl _ _ _ _ (by (with_reducible first | assumption | (simp only [hsA, setRow_heap]; first | done | rfl) | (repeat (first | assumption | (refine heap_at _ _ _ ?_; simp only [hsA, setRow_heap]; done) | refine ext_row (Ext.al _ _) ?_ | refine ext_row (Ext.gr _ _) ?_ | refine ext_row (by assumption) ?_)))) Try.underlying26 rfl (inP _ _ _) ?_) | (refine wpList_load_partW rfl 26 _ rfl _ _ rfl _ _ _ (by (with_reducible first | assumption | (simp only [hsA, setRow_heap]; first | done | rfl) | (repeat (first | assumption | (refine heap_at _ _ _ ?_; simp only [hsA, setRow_heap]; done) | refine ext_row (Ext.al _ _) ?_ | refine ext_row (Ext.gr _ _) ?_ | refine ext_row (by assumption) ?_)))) _ (by first | with_reducible exact pc_x _ _ _ | with_reducible exact pc_y _ _ _ | with_reducible exact tc_x _ _ _ | with_reducible exact tc_y _ _ _ | with_reducible exact tc_z _ _ _) _ Try.underlying26 rfl (inP _ _ _) ?_) | (refine wpList_store_rowW rfl 26 _ _ rfl _ _ rfl rfl _ _ (by (with_reducible first | assumption | (simp only [hsA, setRow_heap]; first | done | rfl) | (repeat (first | assumption | (refine heap_at _ _ _ ?_; simp only [hsA, setRow_heap]; done) | refine ext_row (Ext.al _ _) ?_ | refine ext_row (Ext.gr _ _) ?_ | refine ext_row (by assumption) ?_)))) (inP _ _ _) (by simp only [ec_size, bc_size, pc_size, tc_size, ec_size, bc_size, pc_size, tc_size]; try rfl) (pc_one _ _ _) ?_; (try simp only [nmA]))))
  refine bodyPost_ret (v := .bool true) (by simp [results, Try.results4, go_sem]) rfl ⟨rfl, Ext.below (by (repeat (first | exact Ext.refl _ | assumption | exact hE6 .. | refine Ext.trans ?_ (Ext.al _ _) | refine Ext.trans ?_ (Ext.gr _ _) | refine Ext.trans ?_ (by with_reducible assumption) | refine Ext.setRow ?_ (by first | omega | (simp <;> omega)) _)))⟩
set_option maxHeartbeats 4000000 in
set_option maxRecDepth 100000 in
theorem no0 (a0 : Option Addr) (n0 k0 : Nat) (f0 : Bool) (X0 Y0 : Int) (hn0 : ¬ (2147483647 : Int) < n0) (w : World) (hR0 : ∀ w1, Ext w w1 → Calls Try.prog 22 #[.slice a0 n0 k0] w1 fun e w2 => e = .returned (.tuple #[.agg (pc f0 X0 Y0), .bool false]) ∧ Ext w1 w2) :
    Calls Try.prog 4 #[.slice a0 n0 k0] w fun e w' => e = .returned (.bool true) ∧ Below w.heap.size w w' := by
  have HR0 := Lib.hid hR0
  clear hR0 
  go_enter Try.func4, Try.ntmps4
  go_wp2_with (first | (go_at_call 22; first | ((with_reducible refine (HR0.out _ (by (repeat (first | exact Ext.refl _ | assumption | exact hE6 .. | refine Ext.trans ?_ (Ext.al _ _) | refine Ext.trans ?_ (Ext.gr _ _) | refine Ext.trans ?_ (by with_reducible assumption) | refine Ext.setRow ?_ (by first | omega | (simp <;> omega)) _)))).mono ?_); rintro e w' ⟨rfl, g1, rfl⟩) | fail) | (first | (refine wpList_load_rowW rfl 26 _ rfl _ rfl _ _ _ _ (by (with_reducible first | assumption | (simp only [hsA, setRow_heap]; first | done | rfl) | (repeat (first | assumption | (refine heap_at _ _ _ ?_; simp only [hsA, setRow_heap]; done) | refine ext_row (Ext.al _ _) ?_ | refine ext_row (Ext.gr _ _) ?_ | refine ext_row (by assumption) ?_)))) Try.underlying26 rfl (inP _ _ _) ?_) | (refine wpList_load_partW rfl 26 _ rfl _ _ rfl _ _ _ (by (with_reducible first | assumption | (simp only [hsA, setRow_heap]; first | done | rfl) | (repeat (first | assumption | (refine heap_at _ _ _ ?_; simp only [hsA, setRow_heap]; done) | refine ext_row (Ext.al _ _) ?_ | refine ext_row (Ext.gr _ _) ?_ | refine ext_row (by assumption) ?_)))) _ (by first | with_reducible exact pc_x _ _ _ | with_reducible exact pc_y _ _ _ | with_reducible exact tc_x _ _ _ | with_reducible exact tc_y _ _ _ | with_reducible exact tc_z _ _ _) _ Try.underlying26 rfl (inP _ _ _) ?_) | (refine wpList_store_rowW rfl 26 _ _ rfl _ _ rfl rfl _ _ (by (with_reducible first | assumption | (simp only [hsA, setRow_heap]; first | done | rfl) | (repeat (first | assumption | (refine heap_at _ _ _ ?_; simp only [hsA, setRow_heap]; done) | refine ext_row (Ext.al _ _) ?_ | refine ext_row (Ext.gr _ _) ?_ | refine ext_row (by assumption) ?_)))) (inP _ _ _) (by simp only [ec_size, bc_size, pc_size, tc_size, ec_size, bc_size, pc_size, tc_size]; try rfl) (pc_one _ _ _) ?_; (try simp only [nmA]))))
  refine bodyPost_ret (v := .bool true) (by simp [results, Try.results4, go_sem]) rfl ⟨rfl, Ext.below (by (repeat (first | exact Ext.refl _ | assumption | exact hE6 .. | refine Ext.trans ?_ (Ext.al _ _) | refine Ext.trans ?_ (Ext.gr _ _) | refine Ext.trans ?_ (by with_reducible assumption) | refine Ext.setRow ?_ (by first | omega | (simp <;> omega)) _)))⟩
set_option maxHeartbeats 4000000 in
set_option maxRecDepth 100000 in
theorem far (a0 : Option Addr) (n0 k0 : Nat) (X0 Y0 : Int) (hn0 : ¬ (2147483647 : Int) < n0) (w : World) (hR0 : ∀ w1, Ext w w1 → Calls Try.prog 22 #[.slice a0 n0 k0] w1 fun e w2 => e = .returned (.tuple #[.agg (pc true X0 Y0), .bool true]) ∧ Ext w1 w2) :
    Calls Try.prog 4 #[.slice a0 n0 k0] w fun e w' => e = .returned (.bool true) ∧ Below w.heap.size w w' := by
  have HR0 := Lib.hid hR0
  clear hR0 
  have P0 := pc_0
  go_enter Try.func4, Try.ntmps4
  go_wp2_with (first | (go_at_call 22; first | ((with_reducible refine (HR0.out _ (by (repeat (first | exact Ext.refl _ | assumption | exact hE6 .. | refine Ext.trans ?_ (Ext.al _ _) | refine Ext.trans ?_ (Ext.gr _ _) | refine Ext.trans ?_ (by with_reducible assumption) | refine Ext.setRow ?_ (by first | omega | (simp <;> omega)) _)))).mono ?_); rintro e w' ⟨rfl, g1, rfl⟩) | fail) | (first | (refine wpList_load_rowW rfl 26 _ rfl _ rfl _ _ _ _ (by (with_reducible first | assumption | (simp only [hsA, setRow_heap]; first | done | rfl) | (repeat (first | assumption | (refine heap_at _ _ _ ?_; simp only [hsA, setRow_heap]; done) | refine ext_row (Ext.al _ _) ?_ | refine ext_row (Ext.gr _ _) ?_ | refine ext_row (by assumption) ?_)))) Try.underlying26 rfl (inP _ _ _) ?_) | (refine wpList_load_partW rfl 26 _ rfl _ _ rfl _ _ _ (by (with_reducible first | assumption | (simp only [hsA, setRow_heap]; first | done | rfl) | (repeat (first | assumption | (refine heap_at _ _ _ ?_; simp only [hsA, setRow_heap]; done) | refine ext_row (Ext.al _ _) ?_ | refine ext_row (Ext.gr _ _) ?_ | refine ext_row (by assumption) ?_)))) _ (by first | with_reducible exact pc_x _ _ _ | with_reducible exact pc_y _ _ _ | with_reducible exact tc_x _ _ _ | with_reducible exact tc_y _ _ _ | with_reducible exact tc_z _ _ _) _ Try.underlying26 rfl (inP _ _ _) ?_) | (refine wpList_store_rowW rfl 26 _ _ rfl _ _ rfl rfl _ _ (by (with_reducible first | assumption | (simp only [hsA, setRow_heap]; first | done | rfl) | (repeat (first | assumption | (refine heap_at _ _ _ ?_; simp only [hsA, setRow_heap]; done) | refine ext_row (Ext.al _ _) ?_ | refine ext_row (Ext.gr _ _) ?_ | refine ext_row (by assumption) ?_)))) (inP _ _ _) (by simp only [ec_size, bc_size, pc_size, tc_size, ec_size, bc_size, pc_size, tc_size]; try rfl) (pc_one _ _ _) ?_; (try simp only [nmA]))))
  refine bodyPost_ret (v := .bool true) (by simp [results, Try.results4, go_sem]) rfl ⟨rfl, Ext.below (by (repeat (first | exact Ext.refl _ | assumption | exact hE6 .. | refine Ext.trans ?_ (Ext.al _ _) | refine Ext.trans ?_ (Ext.gr _ _) | refine Ext.trans ?_ (by with_reducible assumption) | refine Ext.setRow ?_ (by first | omega | (simp <;> omega)) _)))⟩
set_option maxHeartbeats 4000000 in
set_option maxRecDepth 100000 in
theorem aff (a0 : Option Addr) (n0 k0 : Nat) (X0 Y0 : Int) (L1 : List Int) (f1 : Bool) (X1 Y1 : Int) (N2 : Nat) (L2 : List Int) (hn0 : ¬ (2147483647 : Int) < n0) (w : World) (hR0 : ∀ w1, Ext w w1 → Calls Try.prog 22 #[.slice a0 n0 k0] w1 fun e w2 => e = .returned (.tuple #[.agg (pc false X0 Y0), .bool true]) ∧ Ext w1 w2) (hA : ∀  w1, Ext w w1 → Calls Try.prog 23 #[.slice a0 n0 k0] w1 fun e w2 => ∃ g0, e = .returned (.tuple #[.slice (some ⟨g0, 0, none⟩) 32 32, .bool true, .bool true]) ∧ g0 < w2.heap.size ∧ Ext w1 w2 ∧ Held .u8 w2 g0 0 L1) (hO : ∀ w1, Calls Try.prog 27 #[.agg (pc false X0 Y0)] w1 fun e w2 => e = .returned (.agg (pc f1 X1 Y1)) ∧ Ext w1 w2) (hW : ∀  w1, Calls Try.prog 26 #[.agg (pc f1 X1 Y1)] w1 fun e w2 => ∃ g0 kk, e = .returned (.slice (some ⟨g0, 0, none⟩) N2 kk) ∧ g0 < w2.heap.size ∧ Ext w1 w2 ∧ Held .u8 w2 g0 0 L2) (hB : ∀ x0 k0 w1, x0 < w1.heap.size → Held .u8 w1 x0 0 L2 → Calls Try.prog 23 #[.slice (some ⟨x0, 0, none⟩) N2 k0] w1 fun e w2 => ∃ g0, e = .returned (.tuple #[.slice (some ⟨g0, 0, none⟩) 32 32, .bool true, .bool true]) ∧ g0 < w2.heap.size ∧ Ext w1 w2 ∧ Held .u8 w2 g0 0 L1) (hE : ∀ x0 k0 x1 k1 w1, x0 < w1.heap.size → Held .u8 w1 x0 0 L1 → x1 < w1.heap.size → Held .u8 w1 x1 0 L1 → Calls Try.prog 25 #[.slice (some ⟨x0, 0, none⟩) 32 k0, .slice (some ⟨x1, 0, none⟩) 32 k1] w1 fun e w2 => e = .returned (.bool true) ∧ Ext w1 w2) :
    Calls Try.prog 4 #[.slice a0 n0 k0] w fun e w' => e = .returned (.bool true) ∧ Below w.heap.size w w' := by
  have HR0 := Lib.hid hR0
  have HA := Lib.hid hA
  have HO := Lib.hid hO
  have HW := Lib.hid hW
  have HB := Lib.hid hB
  have HE := Lib.hid hE
  clear hR0 hA hO hW hB hE 
  have P0 := pc_0
  go_enter Try.func4, Try.ntmps4
  go_wp2_with (first | (go_at_call 22; first | ((with_reducible refine (HR0.out _ (by (repeat (first | exact Ext.refl _ | assumption | exact hE6 .. | refine Ext.trans ?_ (Ext.al _ _) | refine Ext.trans ?_ (Ext.gr _ _) | refine Ext.trans ?_ (by with_reducible assumption) | refine Ext.setRow ?_ (by first | omega | (simp <;> omega)) _)))).mono ?_); rintro e w' ⟨rfl, g1, rfl⟩) | fail) | (go_at_call 23; first | ((with_reducible refine (HA.out _ (by (repeat (first | exact Ext.refl _ | assumption | exact hE6 .. | refine Ext.trans ?_ (Ext.al _ _) | refine Ext.trans ?_ (Ext.gr _ _) | refine Ext.trans ?_ (by with_reducible assumption) | refine Ext.setRow ?_ (by first | omega | (simp <;> omega)) _))) ).mono ?_); rintro e w' ⟨b2_0, rfl, hl2_0, ⟨g2, rfl⟩, hh2_0⟩) | ((with_reducible refine (HB.out _ _ _ (by first | exact hl2_0 | exact Ext.lt (by (repeat (first | exact Ext.refl _ | assumption | exact hE6 .. | refine Ext.trans ?_ (Ext.al _ _) | refine Ext.trans ?_ (Ext.gr _ _) | refine Ext.trans ?_ (by with_reducible assumption) | refine Ext.setRow ?_ (by first | omega | (simp <;> omega)) _))) hl2_0 | exact hl4_0 | exact Ext.lt (by (repeat (first | exact Ext.refl _ | assumption | exact hE6 .. | refine Ext.trans ?_ (Ext.al _ _) | refine Ext.trans ?_ (Ext.gr _ _) | refine Ext.trans ?_ (by with_reducible assumption) | refine Ext.setRow ?_ (by first | omega | (simp <;> omega)) _))) hl4_0) (by first | exact hh2_0 | exact Ext.held (by (repeat (first | exact Ext.refl _ | assumption | exact hE6 .. | refine Ext.trans ?_ (Ext.al _ _) | refine Ext.trans ?_ (Ext.gr _ _) | refine Ext.trans ?_ (by with_reducible assumption) | refine Ext.setRow ?_ (by first | omega | (simp <;> omega)) _))) hl2_0 hh2_0 | exact hh4_0 | exact Ext.held (by (repeat (first | exact Ext.refl _ | assumption | exact hE6 .. | refine Ext.trans ?_ (Ext.al _ _) | refine Ext.trans ?_ (Ext.gr _ _) | refine Ext.trans ?_ (by with_reducible assumption) | refine Ext.setRow ?_ (by first | omega | (simp <;> omega)) _))) hl4_0 hh4_0)).mono ?_); rintro e w' ⟨b5_0, rfl, hl5_0, ⟨g5, rfl⟩, hh5_0⟩) | fail) | (go_at_call 27; first | ((with_reducible refine (HO.out _).mono ?_); rintro e w' ⟨rfl, g3, rfl⟩) | fail) | (go_at_call 26; first | ((with_reducible refine (HW.out _ ).mono ?_); rintro e w' ⟨b4_0, kk4, rfl, hl4_0, ⟨g4, rfl⟩, hh4_0⟩) | fail) | (go_at_call 25; first | ((with_reducible refine (HE.out _ _ _ _ _ (by first | exact hl2_0 | exact Ext.lt (by (repeat (first | exact Ext.refl _ | assumption | exact hE6 .. | refine Ext.trans ?_ (Ext.al _ _) | refine Ext.trans ?_ (Ext.gr _ _) | refine Ext.trans ?_ (by with_reducible assumption) | refine Ext.setRow ?_ (by first | omega | (simp <;> omega)) _))) hl2_0 | exact hl4_0 | exact Ext.lt (by (repeat (first | exact Ext.refl _ | assumption | exact hE6 .. | refine Ext.trans ?_ (Ext.al _ _) | refine Ext.trans ?_ (Ext.gr _ _) | refine Ext.trans ?_ (by with_reducible assumption) | refine Ext.setRow ?_ (by first | omega | (simp <;> omega)) _))) hl4_0 | exact hl5_0 | exact Ext.lt (by (repeat (first | exact Ext.refl _ | assumption | exact hE6 .. | refine Ext.trans ?_ (Ext.al _ _) | refine Ext.trans ?_ (Ext.gr _ _) | refine Ext.trans ?_ (by with_reducible assumption) | refine Ext.setRow ?_ (by first | omega | (simp <;> omega)) _))) hl5_0) (by first | exact hh2_0 | exact Ext.held (by (repeat (first | exact Ext.refl _ | assumption | exact hE6 .. | refine Ext.trans ?_ (Ext.al _ _) | refine Ext.trans ?_ (Ext.gr _ _) | refine Ext.trans ?_ (by with_reducible assumption) | refine Ext.setRow ?_ (by first | omega | (simp <;> omega)) _))) hl2_0 hh2_0 | exact hh4_0 | exact Ext.held (by (repeat (first | exact Ext.refl _ | assumption | exact hE6 .. | refine Ext.trans ?_ (Ext.al _ _) | refine Ext.trans ?_ (Ext.gr _ _) | refine Ext.trans ?_ (by with_reducible assumption) | refine Ext.setRow ?_ (by first | omega | (simp <;> omega)) _))) hl4_0 hh4_0 | exact hh5_0 | exact Ext.held (by (repeat (first | exact Ext.refl _ | assumption | exact hE6 .. | refine Ext.trans ?_ (Ext.al _ _) | refine Ext.trans ?_ (Ext.gr _ _) | refine Ext.trans ?_ (by with_reducible assumption) | refine Ext.setRow ?_ (by first | omega | (simp <;> omega)) _))) hl5_0 hh5_0) (by first | exact hl2_0 | exact Ext.lt (by (repeat (first | exact Ext.refl _ | assumption | exact hE6 .. | refine Ext.trans ?_ (Ext.al _ _) | refine Ext.trans ?_ (Ext.gr _ _) | refine Ext.trans ?_ (by with_reducible assumption) | refine Ext.setRow ?_ (by first | omega | (simp <;> omega)) _))) hl2_0 | exact hl4_0 | exact Ext.lt (by (repeat (first | exact Ext.refl _ | assumption | exact hE6 .. | refine Ext.trans ?_ (Ext.al _ _) | refine Ext.trans ?_ (Ext.gr _ _) | refine Ext.trans ?_ (by with_reducible assumption) | refine Ext.setRow ?_ (by first | omega | (simp <;> omega)) _))) hl4_0 | exact hl5_0 | exact Ext.lt (by (repeat (first | exact Ext.refl _ | assumption | exact hE6 .. | refine Ext.trans ?_ (Ext.al _ _) | refine Ext.trans ?_ (Ext.gr _ _) | refine Ext.trans ?_ (by with_reducible assumption) | refine Ext.setRow ?_ (by first | omega | (simp <;> omega)) _))) hl5_0) (by first | exact hh2_0 | exact Ext.held (by (repeat (first | exact Ext.refl _ | assumption | exact hE6 .. | refine Ext.trans ?_ (Ext.al _ _) | refine Ext.trans ?_ (Ext.gr _ _) | refine Ext.trans ?_ (by with_reducible assumption) | refine Ext.setRow ?_ (by first | omega | (simp <;> omega)) _))) hl2_0 hh2_0 | exact hh4_0 | exact Ext.held (by (repeat (first | exact Ext.refl _ | assumption | exact hE6 .. | refine Ext.trans ?_ (Ext.al _ _) | refine Ext.trans ?_ (Ext.gr _ _) | refine Ext.trans ?_ (by with_reducible assumption) | refine Ext.setRow ?_ (by first | omega | (simp <;> omega)) _))) hl4_0 hh4_0 | exact hh5_0 | exact Ext.held (by (repeat (first | exact Ext.refl _ | assumption | exact hE6 .. | refine Ext.trans ?_ (Ext.al _ _) | refine Ext.trans ?_ (Ext.gr _ _) | refine Ext.trans ?_ (by with_reducible assumption) | refine Ext.setRow ?_ (by first | omega | (simp <;> omega)) _))) hl5_0 hh5_0)).mono ?_); rintro e w' ⟨rfl, g6, rfl⟩) | fail) | (first | (refine wpList_load_rowW rfl 26 _ rfl _ rfl _ _ _ _ (by (with_reducible first | assumption | (simp only [hsA, setRow_heap]; first | done | rfl) | (repeat (first | assumption | (refine heap_at _ _ _ ?_; simp only [hsA, setRow_heap]; done) | refine ext_row (Ext.al _ _) ?_ | refine ext_row (Ext.gr _ _) ?_ | refine ext_row (by assumption) ?_)))) Try.underlying26 rfl (inP _ _ _) ?_) | (refine wpList_load_partW rfl 26 _ rfl _ _ rfl _ _ _ (by (with_reducible first | assumption | (simp only [hsA, setRow_heap]; first | done | rfl) | (repeat (first | assumption | (refine heap_at _ _ _ ?_; simp only [hsA, setRow_heap]; done) | refine ext_row (Ext.al _ _) ?_ | refine ext_row (Ext.gr _ _) ?_ | refine ext_row (by assumption) ?_)))) _ (by first | with_reducible exact pc_x _ _ _ | with_reducible exact pc_y _ _ _ | with_reducible exact tc_x _ _ _ | with_reducible exact tc_y _ _ _ | with_reducible exact tc_z _ _ _) _ Try.underlying26 rfl (inP _ _ _) ?_) | (refine wpList_store_rowW rfl 26 _ _ rfl _ _ rfl rfl _ _ (by (with_reducible first | assumption | (simp only [hsA, setRow_heap]; first | done | rfl) | (repeat (first | assumption | (refine heap_at _ _ _ ?_; simp only [hsA, setRow_heap]; done) | refine ext_row (Ext.al _ _) ?_ | refine ext_row (Ext.gr _ _) ?_ | refine ext_row (by assumption) ?_)))) (inP _ _ _) (by simp only [ec_size, bc_size, pc_size, tc_size, ec_size, bc_size, pc_size, tc_size]; try rfl) (pc_one _ _ _) ?_; (try simp only [nmA]))))
  refine bodyPost_ret (v := .bool true) (by simp [results, Try.results4, go_sem]) rfl ⟨rfl, Ext.below (by (repeat (first | exact Ext.refl _ | assumption | exact hE6 .. | refine Ext.trans ?_ (Ext.al _ _) | refine Ext.trans ?_ (Ext.gr _ _) | refine Ext.trans ?_ (by with_reducible assumption) | refine Ext.setRow ?_ (by first | omega | (simp <;> omega)) _)))⟩
theorem walk (a0 : Option Addr) (n0 k0 : Nat) (w : World) (hs0 : (2147483647 : Int) < n0 ∨ Bd w a0 n0 k0 ∨ ∃ P, Gd w a0 n0 k0 P) :
    Calls Try.prog 4 #[.slice a0 n0 k0] w fun e w' => e = .returned (.bool true) ∧ Below w.heap.size w w' := by
  rcases hs0 with h0 | h0 | ⟨P0, h0⟩
  · exact big0 a0 n0 k0  h0 w
  · obtain ⟨f0, X0, Y0, hR0⟩ := h0.read
    exact no0 a0 n0 k0 f0 X0 Y0 h0.small w hR0
  · have hsm0 := h0.small
    have hR0 := h0.read
    have hon0 := h0.on
    obtain ⟨c0, o0, l0, rfl, rfl, p0, q0, r0, s0⟩ := h0
    cases P0 with
    | far => exact far _ _ _ _ _ hsm0 w hR0
    | aff x y =>
      obtain ⟨f1, X1, Y1, hpv1⟩ := pv_row (.aff x (0 - y))
      have hO := Opposite_aff x y
      have hW := Written_any (.aff x (0 - y))
      rw [hpv1] at hW
      rw [show pc false (x.val : Int) ((0 - y : Fp).val : Int) = pc f1 X1 Y1 from hpv1] at hO
      exact aff _ _ _ _ _ (Bx x) f1 X1 Y1 _ _ hsm0 w hR0 (fun w' hE => iFirst_aff c0 o0 k0 l0 x y w' (hE.lt p0) (hE.held p0 q0) s0) hO hW (fun g k w' u1 u2 => iFirst_aff g 0 k _ x (0 - y) w' u1 u2 (cod_wr (p := .aff x (0 - y)) (Onc.neg hon0))) (fun g k g2 k2 w' u1 u2 u3 u4 => by have h := same_self g k g2 k2 (Bx x) w' u2 (Bx_bd x) u4; rw [Bx_len] at h; exact h)
theorem own : ownKnob Try.prog.godebug = none := by kernel_rfl
theorem laidOut : laidOutB Try.prog = true := by kernel_rfl

set_option maxRecDepth 100000 in
theorem lifted (os : Os) (started : os.Started) (H : Type) (enc : TypeId × Value → H) :
    ReturnsInHanded {} Try.checked os 4 .any (Rows.fnSharedSideSpec.pre6 enc Try.prog Try.f4 Rows.fnSharedSideRow.domain false) (Rows.fnSharedSideSpec.post enc Try.prog Try.f4 false true false false) := by
  refine returnsInHanded_of_change (C := Try.checked) own started (by kernel_rfl) Try.func4
    (ChangeSpec.witness6 (enc := enc) (C := Try.checked) false ⟨#[], #[.slice none 0 0], []⟩ 8 (by kernel_rfl) (by kernel_rfl) (by kernel_rfl) (by kernel_rfl)) ?_
  intro W base args ds gs before hval0 hW _ _
  have hval : ∀ (j : Nat) t v, Try.f4.params[j]? = some t → args[j]? = some v → Value.okWide Try.prog W .any base t v := hval0
  have hW' := hW
  obtain ⟨p, q, hA0, _, rfl, _, _⟩ := hW
  have hA : DataW.TrodAll enc Try.prog W 0 (fun _ => true) true Try.f4.params.toList args.toList ds p := hA0
  rw [Try.params4] at hA hval
  obtain ⟨v0, vs0, d0, ds0, p0, q0, hargs, rfl, rfl, h0, r0⟩ := trodAll_cons hA
  obtain ⟨rfl, rfl, rfl⟩ := trodAll_nil r0
  obtain rfl : args = #[v0] := by cases args; simp_all
  obtain ⟨a0, n0, k0, rfl, s0⟩ := bytes_in h0 (okWide_slice Try.underlying22 (hval 0 22 v0 rfl rfl))
  clear hA0 hval0
  refine (walk a0 n0 k0 W s0).mono fun e W' ⟨he, hg⟩ => ?_
  subst he
  exact ⟨_, rfl, law_post laidOut hW' rfl rfl Try.underlying4 rfl (by kernel_rfl) hg⟩

theorem closed : joinedFacts Try.pinned.checked.prog 4 Try.f4 Rows.fnSharedSideSpec Rows.fnSharedSideRow = true := closed_of (by kernel_rfl)
theorem over : Rows.fnSharedSideRow.holds Try.pinned (OpenSpec.ofChange Rows.fnSharedSideSpec) :=
  OpenClaim.holds_of_wide 4 Try.f4 rfl rfl rfl rfl rfl rfl rfl ⟨rfl, rfl, rfl, rfl, rfl⟩ rfl rfl rfl rfl rfl (by kernel_rfl) Try.func4 closed
    (of_decide_eq_true (by kernel_rfl)) (by unfold Func.isWrapper; first | (rw [if_pos (by decide +kernel)]; kernel_rfl) | (rw [if_neg (by decide +kernel)]; exact ⟨rfl, rfl⟩))
    (fun os started H enc _ => lifted os started H enc)

/-- THE STATEMENT. -/
theorem proved : Rows.FnSharedSideSaid :=
  over
#print axioms proved
end Go.Proofs.Ytmepgkcijeobkaa.fnSharedSide
