/-
  What FnDouble says: a point and itself, also where the receiver is the point.
  Conditions: none.
-/
import Derived.Test.YtmepgkcijeobkaaRows
import Derived.Test.YtmepgkcijeobkaaFin
import Derived.Test.YtmepgkcijeobkaaRdaLaw0
import Derived.Test.YtmepgkcijeobkaaSum
import Derived.WalkKit
import Derived.WalkSpells
import Derived.Outline
import Derived.ProofKit
import Derived.OpenShut
namespace Go.Proofs.Ytmepgkcijeobkaa.fnDouble
open Go Go.ChangeShapes Go.WideShapes Go.ChangeAt Go.RowKit Ecp
set_option linter.unusedSimpArgs false
set_option linter.unusedVariables false

set_option maxHeartbeats 4000000 in
set_option maxRecDepth 100000 in
theorem big (a0 : Option Addr) (n0 k0 : Nat) (hn0 : (2147483647 : Int) < n0) (w : World)  :
    Calls Try.prog 11 #[.slice a0 n0 k0] w fun e w' => e = .returned (.bool true) ∧ Below w.heap.size w w' := by
  go_enter Try.func11, Try.ntmps11
  go_wp2_with (first | (first | (refine wpList_load_rowW rfl 26 _ rfl _ rfl _ _ _ _ (by (with_reducible first | assumption | (simp only [hsA, setRow_heap]; first | done | rfl) | (repeat (first | assumption | (refine heap_at _ _ _ ?_; simp only [hsA, setRow_heap]; done) | refine ext_row (Ext.al _ _) ?_ | refine ext_row (Ext.gr _ _) ?_ | refine ext_row (by assumption) ?_)))) Try.underlying26 rfl (inP _ _ _) ?_) | (refine wpList_load_partW rfl 26 _ rfl _ _ rfl _ _ _ (by (with_reducible first | assumption | (simp only [hsA, setRow_heap]; first | done | rfl) | (repeat (first | assumption | (refine heap_at _ _ _ ?_; simp only [hsA, setRow_heap]; done) | refine ext_row (Ext.al _ _) ?_ | refine ext_row (Ext.gr _ _) ?_ | refine ext_row (by assumption) ?_)))) _ (by first | with_reducible exact pc_x _ _ _ | with_reducible exact pc_y _ _ _ | with_reducible exact tc_x _ _ _ | with_reducible exact tc_y _ _ _ | with_reducible exact tc_z _ _ _) _ Try.underlying26 rfl (inP _ _ _) ?_) | (refine wpList_store_rowW rfl 26 _ _ rfl _ _ rfl rfl _ _ (by (with_reducible first | assumption | (simp only [hsA, setRow_heap]; first | done | rfl) | (repeat (first | assumption | (refine heap_at _ _ _ ?_; simp only [hsA, setRow_heap]; done) | refine ext_row (Ext.al _ _) ?_ | refine ext_row (Ext.gr _ _) ?_ | refine ext_row (by assumption) ?_)))) (inP _ _ _) (by simp only [ec_size, bc_size, pc_size, tc_size, ec_size, bc_size, pc_size, tc_size]; try rfl) (pc_one _ _ _) ?_; (try simp only [nmA]))))
  refine bodyPost_ret (v := .bool true) (by simp [results, Try.results11, go_sem]) rfl ⟨rfl, Ext.below (by (repeat (first | exact Ext.refl _ | assumption | exact hE6 .. | refine Ext.trans ?_ (Ext.al _ _) | refine Ext.trans ?_ (Ext.gr _ _) | refine Ext.trans ?_ (by with_reducible assumption) | refine Ext.setRow ?_ (by first | omega | (simp <;> omega)) _)))⟩
set_option maxHeartbeats 4000000 in
set_option maxRecDepth 100000 in
theorem no (a0 : Option Addr) (n0 k0 : Nat) (f0 : Bool) (X0 Y0 : Int) (hn0 : ¬ (2147483647 : Int) < n0) (w : World) (hR0 : ∀ w1, Ext w w1 → Calls Try.prog 22 #[.slice a0 n0 k0] w1 fun e w2 => e = .returned (.tuple #[.agg (pc f0 X0 Y0), .bool false]) ∧ Ext w1 w2) :
    Calls Try.prog 11 #[.slice a0 n0 k0] w fun e w' => e = .returned (.bool true) ∧ Below w.heap.size w w' := by
  have HR0 := Lib.hid hR0
  clear hR0 
  go_enter Try.func11, Try.ntmps11
  go_wp2_with (first | (go_at_call 22; first | ((with_reducible refine (HR0.out _ (by (repeat (first | exact Ext.refl _ | assumption | exact hE6 .. | refine Ext.trans ?_ (Ext.al _ _) | refine Ext.trans ?_ (Ext.gr _ _) | refine Ext.trans ?_ (by with_reducible assumption) | refine Ext.setRow ?_ (by first | omega | (simp <;> omega)) _)))).mono ?_); rintro e w' ⟨rfl, g1, rfl⟩) | fail) | (first | (refine wpList_load_rowW rfl 26 _ rfl _ rfl _ _ _ _ (by (with_reducible first | assumption | (simp only [hsA, setRow_heap]; first | done | rfl) | (repeat (first | assumption | (refine heap_at _ _ _ ?_; simp only [hsA, setRow_heap]; done) | refine ext_row (Ext.al _ _) ?_ | refine ext_row (Ext.gr _ _) ?_ | refine ext_row (by assumption) ?_)))) Try.underlying26 rfl (inP _ _ _) ?_) | (refine wpList_load_partW rfl 26 _ rfl _ _ rfl _ _ _ (by (with_reducible first | assumption | (simp only [hsA, setRow_heap]; first | done | rfl) | (repeat (first | assumption | (refine heap_at _ _ _ ?_; simp only [hsA, setRow_heap]; done) | refine ext_row (Ext.al _ _) ?_ | refine ext_row (Ext.gr _ _) ?_ | refine ext_row (by assumption) ?_)))) _ (by first | with_reducible exact pc_x _ _ _ | with_reducible exact pc_y _ _ _ | with_reducible exact tc_x _ _ _ | with_reducible exact tc_y _ _ _ | with_reducible exact tc_z _ _ _) _ Try.underlying26 rfl (inP _ _ _) ?_) | (refine wpList_store_rowW rfl 26 _ _ rfl _ _ rfl rfl _ _ (by (with_reducible first | assumption | (simp only [hsA, setRow_heap]; first | done | rfl) | (repeat (first | assumption | (refine heap_at _ _ _ ?_; simp only [hsA, setRow_heap]; done) | refine ext_row (Ext.al _ _) ?_ | refine ext_row (Ext.gr _ _) ?_ | refine ext_row (by assumption) ?_)))) (inP _ _ _) (by simp only [ec_size, bc_size, pc_size, tc_size, ec_size, bc_size, pc_size, tc_size]; try rfl) (pc_one _ _ _) ?_; (try simp only [nmA]))))
  refine bodyPost_ret (v := .bool true) (by simp [results, Try.results11, go_sem]) rfl ⟨rfl, Ext.below (by (repeat (first | exact Ext.refl _ | assumption | exact hE6 .. | refine Ext.trans ?_ (Ext.al _ _) | refine Ext.trans ?_ (Ext.gr _ _) | refine Ext.trans ?_ (by with_reducible assumption) | refine Ext.setRow ?_ (by first | omega | (simp <;> omega)) _)))⟩
set_option maxHeartbeats 4000000 in
set_option maxRecDepth 100000 in
theorem good (a0 : Option Addr) (n0 k0 : Nat) (f0 : Bool) (X0 Y0 : Int) (hn0 : ¬ (2147483647 : Int) < n0) (f1 : Bool) (X1 Y1 : Int) (N1 : Nat) (L1 : List Int) (w : World) (hR0 : ∀ w1, Ext w w1 → Calls Try.prog 22 #[.slice a0 n0 k0] w1 fun e w2 => e = .returned (.tuple #[.agg (pc f0 X0 Y0), .bool true]) ∧ Ext w1 w2) (hD : ∀  w1, Ext w w1 → Calls Try.prog 38 #[.slice a0 n0 k0] w1 fun e w2 => ∃ g0, e = .returned (.tuple #[.slice (some ⟨g0, 0, none⟩) N1 65, .bool true]) ∧ g0 < w2.heap.size ∧ Ext w1 w2 ∧ Held .u8 w2 g0 0 L1) (hI : ∀  w1, Ext w w1 → Calls Try.prog 39 #[.slice a0 n0 k0] w1 fun e w2 => ∃ g0, e = .returned (.tuple #[.slice (some ⟨g0, 0, none⟩) N1 65, .bool true]) ∧ g0 < w2.heap.size ∧ Ext w1 w2 ∧ Held .u8 w2 g0 0 L1) (hS : ∀ w1, Calls Try.prog 40 #[.agg (pc f0 X0 Y0), .agg (pc f0 X0 Y0)] w1 fun e w2 => e = .returned (.agg (pc f1 X1 Y1)) ∧ Ext w1 w2) (hT : ∀ x0 k0 w1, x0 < w1.heap.size → Held .u8 w1 x0 0 L1 → Calls Try.prog 29 #[.slice (some ⟨x0, 0, none⟩) N1 k0, .agg (pc f1 X1 Y1)] w1 fun e w2 => e = .returned (.bool true) ∧ Ext w1 w2) (hE : ∀ x0 k0 x1 k1 w1, x0 < w1.heap.size → Held .u8 w1 x0 0 L1 → x1 < w1.heap.size → Held .u8 w1 x1 0 L1 → Calls Try.prog 25 #[.slice (some ⟨x0, 0, none⟩) N1 k0, .slice (some ⟨x1, 0, none⟩) N1 k1] w1 fun e w2 => e = .returned (.bool true) ∧ Ext w1 w2) :
    Calls Try.prog 11 #[.slice a0 n0 k0] w fun e w' => e = .returned (.bool true) ∧ Below w.heap.size w w' := by
  have HR0 := Lib.hid hR0
  have HD := Lib.hid hD
  have HI := Lib.hid hI
  have HS := Lib.hid hS
  have HT := Lib.hid hT
  have HE := Lib.hid hE
  clear hR0 hD hI hS hT hE 
  go_enter Try.func11, Try.ntmps11
  go_wp2_with (first | (go_at_call 22; first | ((with_reducible refine (HR0.out _ (by (repeat (first | exact Ext.refl _ | assumption | exact hE6 .. | refine Ext.trans ?_ (Ext.al _ _) | refine Ext.trans ?_ (Ext.gr _ _) | refine Ext.trans ?_ (by with_reducible assumption) | refine Ext.setRow ?_ (by first | omega | (simp <;> omega)) _)))).mono ?_); rintro e w' ⟨rfl, g1, rfl⟩) | fail) | (go_at_call 38; first | ((with_reducible refine (HD.out _ (by (repeat (first | exact Ext.refl _ | assumption | exact hE6 .. | refine Ext.trans ?_ (Ext.al _ _) | refine Ext.trans ?_ (Ext.gr _ _) | refine Ext.trans ?_ (by with_reducible assumption) | refine Ext.setRow ?_ (by first | omega | (simp <;> omega)) _))) ).mono ?_); rintro e w' ⟨b2_0, rfl, hl2_0, ⟨g2, rfl⟩, hh2_0⟩) | fail) | (go_at_call 39; first | ((with_reducible refine (HI.out _ (by (repeat (first | exact Ext.refl _ | assumption | exact hE6 .. | refine Ext.trans ?_ (Ext.al _ _) | refine Ext.trans ?_ (Ext.gr _ _) | refine Ext.trans ?_ (by with_reducible assumption) | refine Ext.setRow ?_ (by first | omega | (simp <;> omega)) _))) ).mono ?_); rintro e w' ⟨b3_0, rfl, hl3_0, ⟨g3, rfl⟩, hh3_0⟩) | fail) | (go_at_call 40; first | ((with_reducible refine (HS.out _).mono ?_); rintro e w' ⟨rfl, g4, rfl⟩) | fail) | (go_at_call 29; first | ((with_reducible refine (HT.out _ _ _ (by first | exact hl2_0 | exact Ext.lt (by (repeat (first | exact Ext.refl _ | assumption | exact hE6 .. | refine Ext.trans ?_ (Ext.al _ _) | refine Ext.trans ?_ (Ext.gr _ _) | refine Ext.trans ?_ (by with_reducible assumption) | refine Ext.setRow ?_ (by first | omega | (simp <;> omega)) _))) hl2_0 | exact hl3_0 | exact Ext.lt (by (repeat (first | exact Ext.refl _ | assumption | exact hE6 .. | refine Ext.trans ?_ (Ext.al _ _) | refine Ext.trans ?_ (Ext.gr _ _) | refine Ext.trans ?_ (by with_reducible assumption) | refine Ext.setRow ?_ (by first | omega | (simp <;> omega)) _))) hl3_0) (by first | exact hh2_0 | exact Ext.held (by (repeat (first | exact Ext.refl _ | assumption | exact hE6 .. | refine Ext.trans ?_ (Ext.al _ _) | refine Ext.trans ?_ (Ext.gr _ _) | refine Ext.trans ?_ (by with_reducible assumption) | refine Ext.setRow ?_ (by first | omega | (simp <;> omega)) _))) hl2_0 hh2_0 | exact hh3_0 | exact Ext.held (by (repeat (first | exact Ext.refl _ | assumption | exact hE6 .. | refine Ext.trans ?_ (Ext.al _ _) | refine Ext.trans ?_ (Ext.gr _ _) | refine Ext.trans ?_ (by with_reducible assumption) | refine Ext.setRow ?_ (by first | omega | (simp <;> omega)) _))) hl3_0 hh3_0)).mono ?_); rintro e w' ⟨rfl, g5, rfl⟩) | fail) | (go_at_call 25; first | ((with_reducible refine (HE.out _ _ _ _ _ (by first | exact hl2_0 | exact Ext.lt (by (repeat (first | exact Ext.refl _ | assumption | exact hE6 .. | refine Ext.trans ?_ (Ext.al _ _) | refine Ext.trans ?_ (Ext.gr _ _) | refine Ext.trans ?_ (by with_reducible assumption) | refine Ext.setRow ?_ (by first | omega | (simp <;> omega)) _))) hl2_0 | exact hl3_0 | exact Ext.lt (by (repeat (first | exact Ext.refl _ | assumption | exact hE6 .. | refine Ext.trans ?_ (Ext.al _ _) | refine Ext.trans ?_ (Ext.gr _ _) | refine Ext.trans ?_ (by with_reducible assumption) | refine Ext.setRow ?_ (by first | omega | (simp <;> omega)) _))) hl3_0) (by first | exact hh2_0 | exact Ext.held (by (repeat (first | exact Ext.refl _ | assumption | exact hE6 .. | refine Ext.trans ?_ (Ext.al _ _) | refine Ext.trans ?_ (Ext.gr _ _) | refine Ext.trans ?_ (by with_reducible assumption) | refine Ext.setRow ?_ (by first | omega | (simp <;> omega)) _))) hl2_0 hh2_0 | exact hh3_0 | exact Ext.held (by (repeat (first | exact Ext.refl _ | assumption | exact hE6 .. | refine Ext.trans ?_ (Ext.al _ _) | refine Ext.trans ?_ (Ext.gr _ _) | refine Ext.trans ?_ (by with_reducible assumption) | refine Ext.setRow ?_ (by first | omega | (simp <;> omega)) _))) hl3_0 hh3_0) (by first | exact hl2_0 | exact Ext.lt (by (repeat (first | exact Ext.refl _ | assumption | exact hE6 .. | refine Ext.trans ?_ (Ext.al _ _) | refine Ext.trans ?_ (Ext.gr _ _) | refine Ext.trans ?_ (by with_reducible assumption) | refine Ext.setRow ?_ (by first | omega | (simp <;> omega)) _))) hl2_0 | exact hl3_0 | exact Ext.lt (by (repeat (first | exact Ext.refl _ | assumption | exact hE6 .. | refine Ext.trans ?_ (Ext.al _ _) | refine Ext.trans ?_ (Ext.gr _ _) | refine Ext.trans ?_ (by with_reducible assumption) | refine Ext.setRow ?_ (by first | omega | (simp <;> omega)) _))) hl3_0) (by first | exact hh2_0 | exact Ext.held (by (repeat (first | exact Ext.refl _ | assumption | exact hE6 .. | refine Ext.trans ?_ (Ext.al _ _) | refine Ext.trans ?_ (Ext.gr _ _) | refine Ext.trans ?_ (by with_reducible assumption) | refine Ext.setRow ?_ (by first | omega | (simp <;> omega)) _))) hl2_0 hh2_0 | exact hh3_0 | exact Ext.held (by (repeat (first | exact Ext.refl _ | assumption | exact hE6 .. | refine Ext.trans ?_ (Ext.al _ _) | refine Ext.trans ?_ (Ext.gr _ _) | refine Ext.trans ?_ (by with_reducible assumption) | refine Ext.setRow ?_ (by first | omega | (simp <;> omega)) _))) hl3_0 hh3_0)).mono ?_); rintro e w' ⟨rfl, g6, rfl⟩) | fail) | (first | (refine wpList_load_rowW rfl 26 _ rfl _ rfl _ _ _ _ (by (with_reducible first | assumption | (simp only [hsA, setRow_heap]; first | done | rfl) | (repeat (first | assumption | (refine heap_at _ _ _ ?_; simp only [hsA, setRow_heap]; done) | refine ext_row (Ext.al _ _) ?_ | refine ext_row (Ext.gr _ _) ?_ | refine ext_row (by assumption) ?_)))) Try.underlying26 rfl (inP _ _ _) ?_) | (refine wpList_load_partW rfl 26 _ rfl _ _ rfl _ _ _ (by (with_reducible first | assumption | (simp only [hsA, setRow_heap]; first | done | rfl) | (repeat (first | assumption | (refine heap_at _ _ _ ?_; simp only [hsA, setRow_heap]; done) | refine ext_row (Ext.al _ _) ?_ | refine ext_row (Ext.gr _ _) ?_ | refine ext_row (by assumption) ?_)))) _ (by first | with_reducible exact pc_x _ _ _ | with_reducible exact pc_y _ _ _ | with_reducible exact tc_x _ _ _ | with_reducible exact tc_y _ _ _ | with_reducible exact tc_z _ _ _) _ Try.underlying26 rfl (inP _ _ _) ?_) | (refine wpList_store_rowW rfl 26 _ _ rfl _ _ rfl rfl _ _ (by (with_reducible first | assumption | (simp only [hsA, setRow_heap]; first | done | rfl) | (repeat (first | assumption | (refine heap_at _ _ _ ?_; simp only [hsA, setRow_heap]; done) | refine ext_row (Ext.al _ _) ?_ | refine ext_row (Ext.gr _ _) ?_ | refine ext_row (by assumption) ?_)))) (inP _ _ _) (by simp only [ec_size, bc_size, pc_size, tc_size, ec_size, bc_size, pc_size, tc_size]; try rfl) (pc_one _ _ _) ?_; (try simp only [nmA]))))
  refine bodyPost_ret (v := .bool true) (by simp [results, Try.results11, go_sem]) rfl ⟨rfl, Ext.below (by (repeat (first | exact Ext.refl _ | assumption | exact hE6 .. | refine Ext.trans ?_ (Ext.al _ _) | refine Ext.trans ?_ (Ext.gr _ _) | refine Ext.trans ?_ (by with_reducible assumption) | refine Ext.setRow ?_ (by first | omega | (simp <;> omega)) _)))⟩
theorem walk (a0 : Option Addr) (n0 k0 : Nat) (w : World) (hs : (2147483647 : Int) < n0 ∨ Bd w a0 n0 k0 ∨ ∃ P, Gd w a0 n0 k0 P) :
    Calls Try.prog 11 #[.slice a0 n0 k0] w fun e w' => e = .returned (.bool true) ∧ Below w.heap.size w w' := by
  rcases hs with h | h | ⟨P, h⟩
  · exact big a0 n0 k0 h w
  · obtain ⟨f, X, Y, hR⟩ := h.read
    exact no a0 n0 k0 f X Y h.small w hR
  · have hsm := h.small
    have hon := h.on
    have hR := h.read
    obtain ⟨c, o, l, rfl, rfl, h1, h2, h3, h4⟩ := h
    obtain ⟨f0, X0, Y0, hpv⟩ := pv_row P
    obtain ⟨f1, X1, Y1, hpv1⟩ := pv_row (psum P P)
    have hS := Sum_any P P
    have hT := fun g k w' h1 h2 => is_self g k (psum P P) w' h1 h2
    rw [hpv] at hR hS
    rw [hpv1] at hS hT
    exact good _ _ _ f0 X0 Y0 hsm f1 X1 Y1 _ _ w hR (fun w' hE => iDouble_any c o k0 l P w' (hE.lt h1) (hE.held h1 h2) h4) (fun w' hE => iDoubleInto_any c o k0 l P w' (hE.lt h1) (hE.held h1 h2) h4) hS hT (fun g k g2 k2 w' q1 q2 q3 q4 => same_self g k g2 k2 _ w' q2 (wrL_bd _) q4)
theorem own : ownKnob Try.prog.godebug = none := by kernel_rfl
theorem laidOut : laidOutB Try.prog = true := by kernel_rfl

set_option maxRecDepth 100000 in
theorem lifted (os : Os) (started : os.Started) (H : Type) (enc : TypeId × Value → H) :
    ReturnsInHanded {} Try.checked os 11 .any (Rows.fnDoubleSpec.pre6 enc Try.prog Try.f11 Rows.fnDoubleRow.domain false) (Rows.fnDoubleSpec.post enc Try.prog Try.f11 false true false false) := by
  refine returnsInHanded_of_change (C := Try.checked) own started (by kernel_rfl) Try.func11
    (ChangeSpec.witness6 (enc := enc) (C := Try.checked) false ⟨#[], #[.slice none 0 0], []⟩ 8 (by kernel_rfl) (by kernel_rfl) (by kernel_rfl) (by kernel_rfl)) ?_
  intro W base args ds gs before hval0 hW _ _
  have hval : ∀ (j : Nat) t v, Try.f11.params[j]? = some t → args[j]? = some v → Value.okWide Try.prog W .any base t v := hval0
  have hW' := hW
  obtain ⟨p, q, hA0, _, rfl, _, _⟩ := hW
  have hA : DataW.TrodAll enc Try.prog W 0 (fun _ => true) true Try.f11.params.toList args.toList ds p := hA0
  rw [Try.params11] at hA hval
  obtain ⟨v0, vs0, d0, ds0, p0, q0, hargs, rfl, rfl, h0, r0⟩ := trodAll_cons hA
  obtain ⟨rfl, rfl, rfl⟩ := trodAll_nil r0
  obtain rfl : args = #[v0] := by cases args; simp_all
  obtain ⟨a0, n0, k0, rfl, s0⟩ := bytes_in h0 (okWide_slice Try.underlying22 (hval 0 22 v0 rfl rfl))
  clear hA0 hval0
  refine (walk a0 n0 k0 W s0).mono fun e W' ⟨he, hg⟩ => ?_
  subst he
  exact ⟨_, rfl, law_post laidOut hW' rfl rfl Try.underlying4 rfl (by kernel_rfl) hg⟩

theorem closed : joinedFacts Try.pinned.checked.prog 11 Try.f11 Rows.fnDoubleSpec Rows.fnDoubleRow = true := closed_of (by kernel_rfl)
theorem over : Rows.fnDoubleRow.holds Try.pinned (OpenSpec.ofChange Rows.fnDoubleSpec) :=
  OpenClaim.holds_of_wide 11 Try.f11 rfl rfl rfl rfl rfl rfl rfl ⟨rfl, rfl, rfl, rfl, rfl⟩ rfl rfl rfl rfl rfl (by kernel_rfl) Try.func11 closed
    (of_decide_eq_true (by kernel_rfl)) (by unfold Func.isWrapper; first | (rw [if_pos (by decide +kernel)]; kernel_rfl) | (rw [if_neg (by decide +kernel)]; exact ⟨rfl, rfl⟩))
    (fun os started H enc _ => lifted os started H enc)

/-- THE STATEMENT. -/
theorem proved : Rows.FnDoubleSaid :=
  over
#print axioms proved
end Go.Proofs.Ytmepgkcijeobkaa.fnDouble
