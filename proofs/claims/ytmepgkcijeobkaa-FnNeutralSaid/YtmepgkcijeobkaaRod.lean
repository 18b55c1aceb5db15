/-
  What is proved here: what the laws on sums call: the sum, whether all slices are points, whether two are alike.
  Conditions: those of each theorem.
-/
import Derived.Test.YtmepgkcijeobkaaProg
import Derived.Test.YtmepgkcijeobkaaRdaLaw0
import Derived.Deep.RegionHeld3
import Derived.Test.YtmepgkcijeobkaaImq
import Derived.WalkKit
import Derived.WalkSpells
import Derived.Outline
import Derived.Handy
import Derived.ProofKit
import Derived.Deep.QuietTactic
import Derived.BigQuiet
import Derived.Lib.Hide
import Derived.OpenShut
namespace Go.Proofs.Ytmepgkcijeobkaa
open Go Go.RowKit Ecp
set_option linter.unusedSimpArgs false
set_option linter.unusedVariables false

/-- A place that holds what is told of a point. -/
def Told (w : World) (g : Nat) (P : Pt) : Prop := g < w.heap.size ∧ Held .u8 w g 0 (wrL P) ∧ P.on
theorem Ext.told {u v : World} (h : Ext u v) {g : Nat} {P : Pt} (ht : Told u g P) : Told v g P := ⟨h.lt ht.1, h.held ht.1 ht.2.1, ht.2.2⟩
theorem Told.gd {w : World} {g : Nat} {P : Pt} (h : Told w g P) (k : Nat) (hk : (wrL P).length ≤ k) : Gd w (some ⟨g, 0, none⟩) (wrL P).length k P := ⟨g, 0, wrL P, rfl, rfl, h.1, h.2.1, hk, cod_wr h.2.2⟩
theorem Ext.gd {u v : World} (h : Ext u v) {a : Option Addr} {n k : Nat} {P : Pt} (hg : Gd u a n k P) : Gd v a n k P := by
  obtain ⟨c, o, l, rfl, rfl, h1, h2, h3, h4⟩ := hg
  exact ⟨c, o, l, rfl, rfl, h.lt h1, h.held h1 h2, h3, h4⟩
theorem pv_lit (q : Pt) : ∃ f u0 u1 u2 u3 u4 u5 u6 u7 u8 u9 u10 u11 u12 u13 u14 u15, pv q = #[.bool f, .int .i64 u0, .int .i64 u1, .int .i64 u2, .int .i64 u3, .int .i64 u4, .int .i64 u5, .int .i64 u6, .int .i64 u7, .int .i64 u8, .int .i64 u9, .int .i64 u10, .int .i64 u11, .int .i64 u12, .int .i64 u13, .int .i64 u14, .int .i64 u15] := by
  obtain ⟨f, X, Y, h⟩ := pv_row q
  obtain ⟨x0, x1, x2, x3, x4, x5, x6, x7, hX⟩ := ec_open X
  obtain ⟨y0, y1, y2, y3, y4, y5, y6, y7, hY⟩ := ec_open Y
  exact ⟨f, x0, x1, x2, x3, x4, x5, x6, x7, y0, y1, y2, y3, y4, y5, y6, y7, h.trans (pc_lit _ _ _ _ _ _ _ _ _ _ _ _ _ _ _ _ _ _ _ hX hY)⟩
theorem yieldsIf_load_row {P : Program} {ops : Array Oper} {S : World → Prop} {op : Oper} {a : Act} (hw : Region.wanted op (yielded ops a.tmps) = true) (ty : TypeId) (x : Operand) (ho : op.op = .load ty x) (g : Nat) (hx : a.eval x = .pointer (some ⟨g, 0, none⟩))
    (t : TypeId) (cs : Array Value) (fr : Nat × Nat) (d : TypeDesc) (hg : ∀ w, S w → w.heap[g]? = some (.cells cs t fr)) (hu : P.underlying ty = some d) (hd : (match d with | .struct _ | .array _ _ => true | _ => false) = true) (hi : (P.info? ty).map (·.size) = some cs.size) : YieldsIf P ops S op (.agg cs) a :=
  .inl ⟨hw, fun w hw' => by
    unfold execOp
    simp only [ho, hx, Instr.loadAt, Instr.sureAddr, Sem.run_bind, Sem.run_pure, Result.andThen_ok, run_loadVar_row w g t ty cs fr d (hg w hw') hu hd hi]⟩
theorem wrL_most (P : Pt) : (wrL P).length ≤ 65 := by cases P <;> simp [wrL, Bx_len]
section
variable {ops : Array Oper} {rest : List Oper} {o : Oper} {a : Act} {w : World} {Q : Exit → Act → World → Prop}
theorem wpList_load_sl (hw : Region.wanted o (yielded ops a.tmps) = true) (x : Operand) (ho : o.op = .load 22 x) (b of : Nat) (hx : a.eval x = .pointer (some ⟨b, of, none⟩)) (v : Value) (hc : w.cell? ⟨b, of, none⟩ = some v)
    (h : wpList Try.prog ops Q rest (a.put o.dst v) w) : wpList Try.prog ops Q (o :: rest) a w :=
  wpList_want hw fun K hK => by
    unfold Oper.wp execOp
    simp only [ho, hx, Instr.loadAt, Instr.sureAddr, Sem.run_bind, Sem.run_pure, Result.andThen_ok]
    simp [go_sem, hc]
    exact hK _ _ h
end
theorem Gd.add {w : World} {a a2 : Option Addr} {n k n2 k2 : Nat} {P Q : Pt} (h : Gd w a n k P) (h2 : Gd w a2 n2 k2 Q) : Calls Try.prog 47 #[.slice a n k, .slice a2 n2 k2] w fun e w' => ∃ g, e = .returned (.tuple #[.slice (some ⟨g, 0, none⟩) (wrL (psum P Q)).length 65, .bool true]) ∧ g < w'.heap.size ∧ Ext w w' ∧ Held .u8 w' g 0 (wrL (psum P Q)) := by
  obtain ⟨c, o, l, rfl, rfl, p1, p2, p3, p4⟩ := h
  obtain ⟨c2, o2, l2, rfl, rfl, q1, q2, q3, q4⟩ := h2
  exact iAdd_any c o k c2 o2 k2 l l2 P Q w p1 p2 p4 q1 q2 q4
set_option maxHeartbeats 2000000 in
set_option maxRecDepth 100000 in
theorem sum_any (a a2 : Option Addr) (n k n2 k2 : Nat) (P Q : Pt) (w : World) (h : Gd w a n k P) (h2 : Gd w a2 n2 k2 Q) : Calls Try.prog 50 #[.slice a n k, .slice a2 n2 k2] w fun e w' => ∃ g, e = .returned (.slice (some ⟨g, 0, none⟩) (wrL (psum P Q)).length 65) ∧ Ext w w' ∧ Told w' g (psum P Q) := by
  have hon := psum_on h.on h2.on
  have H := Lib.hid (h.add h2)
  clear h h2
  go_enter Try.func50, Try.ntmps50
  go_wp2_with (go_at_call 47; (with_reducible refine H.out.mono ?_); rintro e w1 ⟨g, rfl, hl, hE, hh⟩; have H1 := Lib.hid (And.intro hl (And.intro hE hh)); clear hl hE hh)
  exact bodyPost_ret (v := .slice (some ⟨g, 0, none⟩) (wrL (psum P Q)).length 65) (by simp [results, Try.results50, go_sem]) rfl ⟨g, rfl, H1.out.2.1, H1.out.1, H1.out.2.2, hon⟩
theorem inf_told (w : World) : Calls Try.prog 51 #[] w fun e w' => ∃ g, e = .returned (.slice (some ⟨g, 0, none⟩) (wrL .far).length 65) ∧ Ext w w' ∧ Told w' g .far := by
  refine (iInfinity_any w).mono ?_
  rintro e w' ⟨g, rfl, h1, h2, h3⟩
  exact ⟨g, rfl, h2, h1, h3, trivial⟩
set_option maxHeartbeats 2000000 in
set_option maxRecDepth 100000 in
theorem points1_good (B k : Nat) (a0 : Option Addr) (n0 k0 : Nat) (f0 : Bool) (X0 Y0 : Int) (w : World) (q0 : w.cell? ⟨B, 0, none⟩ = some (.slice a0 n0 k0)) (h0 : ∀ w1, Ext w w1 → Calls Try.prog 22 #[.slice a0 n0 k0] w1 fun e w2 => e = .returned (.tuple #[.agg (pc f0 X0 Y0), .bool true]) ∧ Ext w1 w2) : Calls Try.prog 48 #[.slice (some ⟨B, 0, none⟩) 1 k] w fun e w' => e = .returned (.bool true) ∧ Ext w w' := by
  have H0 := Lib.hid h0
  have Q0 := Lib.hid q0
  clear h0 q0
  go_enter Try.func48, Try.ntmps48
  go_wp2_with (fail)
  refine wp_loop_rounds 2 ?_
  iterate 1 (rw [rounds_succ]; go_wp2_with (first | (refine wpList_load_sl rfl _ rfl _ _ rfl _ (cell_ext' (by (repeat (first | exact Ext.refl _ | refine Ext.trans ?_ (Ext.al _ _) | refine Ext.trans ?_ (Ext.gr _ _))) : Ext w _) Q0.out) ?_) | (go_at_call 22; ((with_reducible refine (H0.out _ (by (repeat (exact Ext.refl _)))).mono ?_); rintro e w' ⟨rfl, g0, rfl⟩)) | ((refine wpList_store_rowW rfl 26 _ _ rfl _ _ rfl rfl _ _ (by (with_reducible first | (simp only [hsA, setRow_heap]; rfl) | (repeat (fail)))) (inP _ _ _) (by simp only [ec_size, bc_size, pc_size, tc_size, ec_size, bc_size, pc_size, tc_size]; try rfl) (pc_one _ _ _) ?_; (try simp only [nmA])))))
  rw [rounds_succ]
  go_wp2_with (fail)
  refine bodyPost_ret (v := .bool true) (by simp [results, Try.results48, go_sem]) rfl ⟨rfl, (by (repeat (first | exact Ext.refl _ | refine Ext.trans ?_ (Ext.al _ _) | refine Ext.trans ?_ (Ext.gr _ _))))⟩
set_option maxHeartbeats 2000000 in
set_option maxRecDepth 100000 in
theorem points1_bad0 (B k : Nat) (a0 : Option Addr) (n0 k0 : Nat) (f0 : Bool) (X0 Y0 : Int) (w : World) (q0 : w.cell? ⟨B, 0, none⟩ = some (.slice a0 n0 k0)) (h0 : ∀ w1, Ext w w1 → Calls Try.prog 22 #[.slice a0 n0 k0] w1 fun e w2 => e = .returned (.tuple #[.agg (pc f0 X0 Y0), .bool false]) ∧ Ext w1 w2) : Calls Try.prog 48 #[.slice (some ⟨B, 0, none⟩) 1 k] w fun e w' => e = .returned (.bool false) ∧ Ext w w' := by
  have H0 := Lib.hid h0
  have Q0 := Lib.hid q0
  clear h0 q0
  go_enter Try.func48, Try.ntmps48
  go_wp2_with (fail)
  refine wp_loop_rounds 2 ?_
  iterate 1 (rw [rounds_succ]; go_wp2_with (first | (refine wpList_load_sl rfl _ rfl _ _ rfl _ (cell_ext' (by (repeat (first | exact Ext.refl _ | refine Ext.trans ?_ (Ext.al _ _) | refine Ext.trans ?_ (Ext.gr _ _))) : Ext w _) Q0.out) ?_) | (go_at_call 22; ((with_reducible refine (H0.out _ (by (repeat (exact Ext.refl _)))).mono ?_); rintro e w' ⟨rfl, g0, rfl⟩)) | ((refine wpList_store_rowW rfl 26 _ _ rfl _ _ rfl rfl _ _ (by (with_reducible first | (simp only [hsA, setRow_heap]; rfl) | (repeat (fail)))) (inP _ _ _) (by simp only [ec_size, bc_size, pc_size, tc_size, ec_size, bc_size, pc_size, tc_size]; try rfl) (pc_one _ _ _) ?_; (try simp only [nmA])))))
  refine bodyPost_ret (v := .bool false) (by simp [results, Try.results48, go_sem]) rfl ⟨rfl, (by (repeat (first | exact Ext.refl _ | refine Ext.trans ?_ (Ext.al _ _) | refine Ext.trans ?_ (Ext.gr _ _))))⟩
set_option maxHeartbeats 2000000 in
set_option maxRecDepth 100000 in
theorem points2_good (B k : Nat) (a0 : Option Addr) (n0 k0 : Nat) (f0 : Bool) (X0 Y0 : Int) (a1 : Option Addr) (n1 k1 : Nat) (f1 : Bool) (X1 Y1 : Int) (w : World) (q0 : w.cell? ⟨B, 0, none⟩ = some (.slice a0 n0 k0)) (q1 : w.cell? ⟨B, 1, none⟩ = some (.slice a1 n1 k1)) (h0 : ∀ w1, Ext w w1 → Calls Try.prog 22 #[.slice a0 n0 k0] w1 fun e w2 => e = .returned (.tuple #[.agg (pc f0 X0 Y0), .bool true]) ∧ Ext w1 w2) (h1 : ∀ w1, Ext w w1 → Calls Try.prog 22 #[.slice a1 n1 k1] w1 fun e w2 => e = .returned (.tuple #[.agg (pc f1 X1 Y1), .bool true]) ∧ Ext w1 w2) : Calls Try.prog 48 #[.slice (some ⟨B, 0, none⟩) 2 k] w fun e w' => e = .returned (.bool true) ∧ Ext w w' := by
  have H0 := Lib.hid h0
  have Q0 := Lib.hid q0
  have H1 := Lib.hid h1
  have Q1 := Lib.hid q1
  clear h0 q0 h1 q1
  go_enter Try.func48, Try.ntmps48
  go_wp2_with (fail)
  refine wp_loop_rounds 3 ?_
  iterate 2 (rw [rounds_succ]; go_wp2_with (first | (refine wpList_load_sl rfl _ rfl _ _ rfl _ (cell_ext' (by (repeat (first | exact Ext.refl _ | refine Ext.trans ?_ (Ext.al _ _) | refine Ext.trans ?_ (Ext.gr _ _))) : Ext w _) Q0.out) ?_) | (refine wpList_load_sl rfl _ rfl _ _ rfl _ (cell_ext' (by (repeat (first | exact Ext.refl _ | refine Ext.trans ?_ (Ext.al _ _) | refine Ext.trans ?_ (Ext.gr _ _))) : Ext w _) Q1.out) ?_) | (go_at_call 22; first | ((with_reducible refine (H0.out _ (by (repeat (exact Ext.refl _)))).mono ?_); rintro e w' ⟨rfl, g0, rfl⟩) | ((with_reducible refine (H1.out _ (by (repeat (first | exact Ext.refl _ | refine Ext.trans ?_ (Ext.al _ _) | refine Ext.trans ?_ (Ext.gr _ _))))).mono ?_); rintro e w' ⟨rfl, g1, rfl⟩)) | ((refine wpList_store_rowW rfl 26 _ _ rfl _ _ rfl rfl _ _ (by (with_reducible first | (simp only [hsA, setRow_heap]; rfl) | (repeat (fail)))) (inP _ _ _) (by simp only [ec_size, bc_size, pc_size, tc_size, ec_size, bc_size, pc_size, tc_size]; try rfl) (pc_one _ _ _) ?_; (try simp only [nmA])))))
  rw [rounds_succ]
  go_wp2_with (fail)
  refine bodyPost_ret (v := .bool true) (by simp [results, Try.results48, go_sem]) rfl ⟨rfl, (by (repeat (first | exact Ext.refl _ | refine Ext.trans ?_ (Ext.al _ _) | refine Ext.trans ?_ (Ext.gr _ _))))⟩
set_option maxHeartbeats 2000000 in
set_option maxRecDepth 100000 in
theorem points2_bad0 (B k : Nat) (a0 : Option Addr) (n0 k0 : Nat) (f0 : Bool) (X0 Y0 : Int) (w : World) (q0 : w.cell? ⟨B, 0, none⟩ = some (.slice a0 n0 k0)) (h0 : ∀ w1, Ext w w1 → Calls Try.prog 22 #[.slice a0 n0 k0] w1 fun e w2 => e = .returned (.tuple #[.agg (pc f0 X0 Y0), .bool false]) ∧ Ext w1 w2) : Calls Try.prog 48 #[.slice (some ⟨B, 0, none⟩) 2 k] w fun e w' => e = .returned (.bool false) ∧ Ext w w' := by
  have H0 := Lib.hid h0
  have Q0 := Lib.hid q0
  clear h0 q0
  go_enter Try.func48, Try.ntmps48
  go_wp2_with (fail)
  refine wp_loop_rounds 2 ?_
  iterate 1 (rw [rounds_succ]; go_wp2_with (first | (refine wpList_load_sl rfl _ rfl _ _ rfl _ (cell_ext' (by (repeat (first | exact Ext.refl _ | refine Ext.trans ?_ (Ext.al _ _) | refine Ext.trans ?_ (Ext.gr _ _))) : Ext w _) Q0.out) ?_) | (go_at_call 22; ((with_reducible refine (H0.out _ (by (repeat (exact Ext.refl _)))).mono ?_); rintro e w' ⟨rfl, g0, rfl⟩)) | ((refine wpList_store_rowW rfl 26 _ _ rfl _ _ rfl rfl _ _ (by (with_reducible first | (simp only [hsA, setRow_heap]; rfl) | (repeat (fail)))) (inP _ _ _) (by simp only [ec_size, bc_size, pc_size, tc_size, ec_size, bc_size, pc_size, tc_size]; try rfl) (pc_one _ _ _) ?_; (try simp only [nmA])))))
  refine bodyPost_ret (v := .bool false) (by simp [results, Try.results48, go_sem]) rfl ⟨rfl, (by (repeat (first | exact Ext.refl _ | refine Ext.trans ?_ (Ext.al _ _) | refine Ext.trans ?_ (Ext.gr _ _))))⟩
set_option maxHeartbeats 2000000 in
set_option maxRecDepth 100000 in
theorem points2_bad1 (B k : Nat) (a0 : Option Addr) (n0 k0 : Nat) (f0 : Bool) (X0 Y0 : Int) (a1 : Option Addr) (n1 k1 : Nat) (f1 : Bool) (X1 Y1 : Int) (w : World) (q0 : w.cell? ⟨B, 0, none⟩ = some (.slice a0 n0 k0)) (q1 : w.cell? ⟨B, 1, none⟩ = some (.slice a1 n1 k1)) (h0 : ∀ w1, Ext w w1 → Calls Try.prog 22 #[.slice a0 n0 k0] w1 fun e w2 => e = .returned (.tuple #[.agg (pc f0 X0 Y0), .bool true]) ∧ Ext w1 w2) (h1 : ∀ w1, Ext w w1 → Calls Try.prog 22 #[.slice a1 n1 k1] w1 fun e w2 => e = .returned (.tuple #[.agg (pc f1 X1 Y1), .bool false]) ∧ Ext w1 w2) : Calls Try.prog 48 #[.slice (some ⟨B, 0, none⟩) 2 k] w fun e w' => e = .returned (.bool false) ∧ Ext w w' := by
  have H0 := Lib.hid h0
  have Q0 := Lib.hid q0
  have H1 := Lib.hid h1
  have Q1 := Lib.hid q1
  clear h0 q0 h1 q1
  go_enter Try.func48, Try.ntmps48
  go_wp2_with (fail)
  refine wp_loop_rounds 3 ?_
  iterate 2 (rw [rounds_succ]; go_wp2_with (first | (refine wpList_load_sl rfl _ rfl _ _ rfl _ (cell_ext' (by (repeat (first | exact Ext.refl _ | refine Ext.trans ?_ (Ext.al _ _) | refine Ext.trans ?_ (Ext.gr _ _))) : Ext w _) Q0.out) ?_) | (refine wpList_load_sl rfl _ rfl _ _ rfl _ (cell_ext' (by (repeat (first | exact Ext.refl _ | refine Ext.trans ?_ (Ext.al _ _) | refine Ext.trans ?_ (Ext.gr _ _))) : Ext w _) Q1.out) ?_) | (go_at_call 22; first | ((with_reducible refine (H0.out _ (by (repeat (exact Ext.refl _)))).mono ?_); rintro e w' ⟨rfl, g0, rfl⟩) | ((with_reducible refine (H1.out _ (by (repeat (first | exact Ext.refl _ | refine Ext.trans ?_ (Ext.al _ _) | refine Ext.trans ?_ (Ext.gr _ _))))).mono ?_); rintro e w' ⟨rfl, g1, rfl⟩)) | ((refine wpList_store_rowW rfl 26 _ _ rfl _ _ rfl rfl _ _ (by (with_reducible first | (simp only [hsA, setRow_heap]; rfl) | (repeat (fail)))) (inP _ _ _) (by simp only [ec_size, bc_size, pc_size, tc_size, ec_size, bc_size, pc_size, tc_size]; try rfl) (pc_one _ _ _) ?_; (try simp only [nmA])))))
  refine bodyPost_ret (v := .bool false) (by simp [results, Try.results48, go_sem]) rfl ⟨rfl, (by (repeat (first | exact Ext.refl _ | refine Ext.trans ?_ (Ext.al _ _) | refine Ext.trans ?_ (Ext.gr _ _))))⟩
set_option maxHeartbeats 2000000 in
set_option maxRecDepth 100000 in
theorem points3_good (B k : Nat) (a0 : Option Addr) (n0 k0 : Nat) (f0 : Bool) (X0 Y0 : Int) (a1 : Option Addr) (n1 k1 : Nat) (f1 : Bool) (X1 Y1 : Int) (a2 : Option Addr) (n2 k2 : Nat) (f2 : Bool) (X2 Y2 : Int) (w : World) (q0 : w.cell? ⟨B, 0, none⟩ = some (.slice a0 n0 k0)) (q1 : w.cell? ⟨B, 1, none⟩ = some (.slice a1 n1 k1)) (q2 : w.cell? ⟨B, 2, none⟩ = some (.slice a2 n2 k2)) (h0 : ∀ w1, Ext w w1 → Calls Try.prog 22 #[.slice a0 n0 k0] w1 fun e w2 => e = .returned (.tuple #[.agg (pc f0 X0 Y0), .bool true]) ∧ Ext w1 w2) (h1 : ∀ w1, Ext w w1 → Calls Try.prog 22 #[.slice a1 n1 k1] w1 fun e w2 => e = .returned (.tuple #[.agg (pc f1 X1 Y1), .bool true]) ∧ Ext w1 w2) (h2 : ∀ w1, Ext w w1 → Calls Try.prog 22 #[.slice a2 n2 k2] w1 fun e w2 => e = .returned (.tuple #[.agg (pc f2 X2 Y2), .bool true]) ∧ Ext w1 w2) : Calls Try.prog 48 #[.slice (some ⟨B, 0, none⟩) 3 k] w fun e w' => e = .returned (.bool true) ∧ Ext w w' := by
  have H0 := Lib.hid h0
  have Q0 := Lib.hid q0
  have H1 := Lib.hid h1
  have Q1 := Lib.hid q1
  have H2 := Lib.hid h2
  have Q2 := Lib.hid q2
  clear h0 q0 h1 q1 h2 q2
  go_enter Try.func48, Try.ntmps48
  go_wp2_with (fail)
  refine wp_loop_rounds 4 ?_
  iterate 3 (rw [rounds_succ]; go_wp2_with (first | (refine wpList_load_sl rfl _ rfl _ _ rfl _ (cell_ext' (by (repeat (first | exact Ext.refl _ | refine Ext.trans ?_ (Ext.al _ _) | refine Ext.trans ?_ (Ext.gr _ _))) : Ext w _) Q0.out) ?_) | (refine wpList_load_sl rfl _ rfl _ _ rfl _ (cell_ext' (by (repeat (first | exact Ext.refl _ | refine Ext.trans ?_ (Ext.al _ _) | refine Ext.trans ?_ (Ext.gr _ _))) : Ext w _) Q1.out) ?_) | (refine wpList_load_sl rfl _ rfl _ _ rfl _ (cell_ext' (by (repeat (first | exact Ext.refl _ | refine Ext.trans ?_ (Ext.al _ _) | refine Ext.trans ?_ (Ext.gr _ _))) : Ext w _) Q2.out) ?_) | (go_at_call 22; first | ((with_reducible refine (H0.out _ (by (repeat (exact Ext.refl _)))).mono ?_); rintro e w' ⟨rfl, g0, rfl⟩) | ((with_reducible refine (H1.out _ (by (repeat (first | exact Ext.refl _ | refine Ext.trans ?_ (Ext.al _ _) | refine Ext.trans ?_ (Ext.gr _ _))))).mono ?_); rintro e w' ⟨rfl, g1, rfl⟩) | ((with_reducible refine (H2.out _ (by (repeat (first | exact Ext.refl _ | refine Ext.trans ?_ (Ext.al _ _) | refine Ext.trans ?_ (Ext.gr _ _))))).mono ?_); rintro e w' ⟨rfl, g2, rfl⟩)) | ((refine wpList_store_rowW rfl 26 _ _ rfl _ _ rfl rfl _ _ (by (with_reducible first | (simp only [hsA, setRow_heap]; rfl) | (repeat (fail)))) (inP _ _ _) (by simp only [ec_size, bc_size, pc_size, tc_size, ec_size, bc_size, pc_size, tc_size]; try rfl) (pc_one _ _ _) ?_; (try simp only [nmA])))))
  rw [rounds_succ]
  go_wp2_with (fail)
  refine bodyPost_ret (v := .bool true) (by simp [results, Try.results48, go_sem]) rfl ⟨rfl, (by (repeat (first | exact Ext.refl _ | refine Ext.trans ?_ (Ext.al _ _) | refine Ext.trans ?_ (Ext.gr _ _))))⟩
set_option maxHeartbeats 2000000 in
set_option maxRecDepth 100000 in
theorem points3_bad0 (B k : Nat) (a0 : Option Addr) (n0 k0 : Nat) (f0 : Bool) (X0 Y0 : Int) (w : World) (q0 : w.cell? ⟨B, 0, none⟩ = some (.slice a0 n0 k0)) (h0 : ∀ w1, Ext w w1 → Calls Try.prog 22 #[.slice a0 n0 k0] w1 fun e w2 => e = .returned (.tuple #[.agg (pc f0 X0 Y0), .bool false]) ∧ Ext w1 w2) : Calls Try.prog 48 #[.slice (some ⟨B, 0, none⟩) 3 k] w fun e w' => e = .returned (.bool false) ∧ Ext w w' := by
  have H0 := Lib.hid h0
  have Q0 := Lib.hid q0
  clear h0 q0
  go_enter Try.func48, Try.ntmps48
  go_wp2_with (fail)
  refine wp_loop_rounds 2 ?_
  iterate 1 (rw [rounds_succ]; go_wp2_with (first | (refine wpList_load_sl rfl _ rfl _ _ rfl _ (cell_ext' (by (repeat (first | exact Ext.refl _ | refine Ext.trans ?_ (Ext.al _ _) | refine Ext.trans ?_ (Ext.gr _ _))) : Ext w _) Q0.out) ?_) | (go_at_call 22; ((with_reducible refine (H0.out _ (by (repeat (exact Ext.refl _)))).mono ?_); rintro e w' ⟨rfl, g0, rfl⟩)) | ((refine wpList_store_rowW rfl 26 _ _ rfl _ _ rfl rfl _ _ (by (with_reducible first | (simp only [hsA, setRow_heap]; rfl) | (repeat (fail)))) (inP _ _ _) (by simp only [ec_size, bc_size, pc_size, tc_size, ec_size, bc_size, pc_size, tc_size]; try rfl) (pc_one _ _ _) ?_; (try simp only [nmA])))))
  refine bodyPost_ret (v := .bool false) (by simp [results, Try.results48, go_sem]) rfl ⟨rfl, (by (repeat (first | exact Ext.refl _ | refine Ext.trans ?_ (Ext.al _ _) | refine Ext.trans ?_ (Ext.gr _ _))))⟩
set_option maxHeartbeats 2000000 in
set_option maxRecDepth 100000 in
theorem points3_bad1 (B k : Nat) (a0 : Option Addr) (n0 k0 : Nat) (f0 : Bool) (X0 Y0 : Int) (a1 : Option Addr) (n1 k1 : Nat) (f1 : Bool) (X1 Y1 : Int) (w : World) (q0 : w.cell? ⟨B, 0, none⟩ = some (.slice a0 n0 k0)) (q1 : w.cell? ⟨B, 1, none⟩ = some (.slice a1 n1 k1)) (h0 : ∀ w1, Ext w w1 → Calls Try.prog 22 #[.slice a0 n0 k0] w1 fun e w2 => e = .returned (.tuple #[.agg (pc f0 X0 Y0), .bool true]) ∧ Ext w1 w2) (h1 : ∀ w1, Ext w w1 → Calls Try.prog 22 #[.slice a1 n1 k1] w1 fun e w2 => e = .returned (.tuple #[.agg (pc f1 X1 Y1), .bool false]) ∧ Ext w1 w2) : Calls Try.prog 48 #[.slice (some ⟨B, 0, none⟩) 3 k] w fun e w' => e = .returned (.bool false) ∧ Ext w w' := by
  have H0 := Lib.hid h0
  have Q0 := Lib.hid q0
  have H1 := Lib.hid h1
  have Q1 := Lib.hid q1
  clear h0 q0 h1 q1
  go_enter Try.func48, Try.ntmps48
  go_wp2_with (fail)
  refine wp_loop_rounds 3 ?_
  iterate 2 (rw [rounds_succ]; go_wp2_with (first | (refine wpList_load_sl rfl _ rfl _ _ rfl _ (cell_ext' (by (repeat (first | exact Ext.refl _ | refine Ext.trans ?_ (Ext.al _ _) | refine Ext.trans ?_ (Ext.gr _ _))) : Ext w _) Q0.out) ?_) | (refine wpList_load_sl rfl _ rfl _ _ rfl _ (cell_ext' (by (repeat (first | exact Ext.refl _ | refine Ext.trans ?_ (Ext.al _ _) | refine Ext.trans ?_ (Ext.gr _ _))) : Ext w _) Q1.out) ?_) | (go_at_call 22; first | ((with_reducible refine (H0.out _ (by (repeat (exact Ext.refl _)))).mono ?_); rintro e w' ⟨rfl, g0, rfl⟩) | ((with_reducible refine (H1.out _ (by (repeat (first | exact Ext.refl _ | refine Ext.trans ?_ (Ext.al _ _) | refine Ext.trans ?_ (Ext.gr _ _))))).mono ?_); rintro e w' ⟨rfl, g1, rfl⟩)) | ((refine wpList_store_rowW rfl 26 _ _ rfl _ _ rfl rfl _ _ (by (with_reducible first | (simp only [hsA, setRow_heap]; rfl) | (repeat (fail)))) (inP _ _ _) (by simp only [ec_size, bc_size, pc_size, tc_size, ec_size, bc_size, pc_size, tc_size]; try rfl) (pc_one _ _ _) ?_; (try simp only [nmA])))))
  refine bodyPost_ret (v := .bool false) (by simp [results, Try.results48, go_sem]) rfl ⟨rfl, (by (repeat (first | exact Ext.refl _ | refine Ext.trans ?_ (Ext.al _ _) | refine Ext.trans ?_ (Ext.gr _ _))))⟩
set_option maxHeartbeats 2000000 in
set_option maxRecDepth 100000 in
theorem points3_bad2 (B k : Nat) (a0 : Option Addr) (n0 k0 : Nat) (f0 : Bool) (X0 Y0 : Int) (a1 : Option Addr) (n1 k1 : Nat) (f1 : Bool) (X1 Y1 : Int) (a2 : Option Addr) (n2 k2 : Nat) (f2 : Bool) (X2 Y2 : Int) (w : World) (q0 : w.cell? ⟨B, 0, none⟩ = some (.slice a0 n0 k0)) (q1 : w.cell? ⟨B, 1, none⟩ = some (.slice a1 n1 k1)) (q2 : w.cell? ⟨B, 2, none⟩ = some (.slice a2 n2 k2)) (h0 : ∀ w1, Ext w w1 → Calls Try.prog 22 #[.slice a0 n0 k0] w1 fun e w2 => e = .returned (.tuple #[.agg (pc f0 X0 Y0), .bool true]) ∧ Ext w1 w2) (h1 : ∀ w1, Ext w w1 → Calls Try.prog 22 #[.slice a1 n1 k1] w1 fun e w2 => e = .returned (.tuple #[.agg (pc f1 X1 Y1), .bool true]) ∧ Ext w1 w2) (h2 : ∀ w1, Ext w w1 → Calls Try.prog 22 #[.slice a2 n2 k2] w1 fun e w2 => e = .returned (.tuple #[.agg (pc f2 X2 Y2), .bool false]) ∧ Ext w1 w2) : Calls Try.prog 48 #[.slice (some ⟨B, 0, none⟩) 3 k] w fun e w' => e = .returned (.bool false) ∧ Ext w w' := by
  have H0 := Lib.hid h0
  have Q0 := Lib.hid q0
  have H1 := Lib.hid h1
  have Q1 := Lib.hid q1
  have H2 := Lib.hid h2
  have Q2 := Lib.hid q2
  clear h0 q0 h1 q1 h2 q2
  go_enter Try.func48, Try.ntmps48
  go_wp2_with (fail)
  refine wp_loop_rounds 4 ?_
  iterate 3 (rw [rounds_succ]; go_wp2_with (first | (refine wpList_load_sl rfl _ rfl _ _ rfl _ (cell_ext' (by (repeat (first | exact Ext.refl _ | refine Ext.trans ?_ (Ext.al _ _) | refine Ext.trans ?_ (Ext.gr _ _))) : Ext w _) Q0.out) ?_) | (refine wpList_load_sl rfl _ rfl _ _ rfl _ (cell_ext' (by (repeat (first | exact Ext.refl _ | refine Ext.trans ?_ (Ext.al _ _) | refine Ext.trans ?_ (Ext.gr _ _))) : Ext w _) Q1.out) ?_) | (refine wpList_load_sl rfl _ rfl _ _ rfl _ (cell_ext' (by (repeat (first | exact Ext.refl _ | refine Ext.trans ?_ (Ext.al _ _) | refine Ext.trans ?_ (Ext.gr _ _))) : Ext w _) Q2.out) ?_) | (go_at_call 22; first | ((with_reducible refine (H0.out _ (by (repeat (exact Ext.refl _)))).mono ?_); rintro e w' ⟨rfl, g0, rfl⟩) | ((with_reducible refine (H1.out _ (by (repeat (first | exact Ext.refl _ | refine Ext.trans ?_ (Ext.al _ _) | refine Ext.trans ?_ (Ext.gr _ _))))).mono ?_); rintro e w' ⟨rfl, g1, rfl⟩) | ((with_reducible refine (H2.out _ (by (repeat (first | exact Ext.refl _ | refine Ext.trans ?_ (Ext.al _ _) | refine Ext.trans ?_ (Ext.gr _ _))))).mono ?_); rintro e w' ⟨rfl, g2, rfl⟩)) | ((refine wpList_store_rowW rfl 26 _ _ rfl _ _ rfl rfl _ _ (by (with_reducible first | (simp only [hsA, setRow_heap]; rfl) | (repeat (fail)))) (inP _ _ _) (by simp only [ec_size, bc_size, pc_size, tc_size, ec_size, bc_size, pc_size, tc_size]; try rfl) (pc_one _ _ _) ?_; (try simp only [nmA])))))
  refine bodyPost_ret (v := .bool false) (by simp [results, Try.results48, go_sem]) rfl ⟨rfl, (by (repeat (first | exact Ext.refl _ | refine Ext.trans ?_ (Ext.al _ _) | refine Ext.trans ?_ (Ext.gr _ _))))⟩
set_option maxHeartbeats 2000000 in
set_option maxRecDepth 100000 in
theorem alike_any (g g2 k k2 : Nat) (P : Pt) (w : World) (h : Told w g P) (h2 : Told w g2 P) (hk : 65 ≤ k) : Calls Try.prog 49 #[.slice (some ⟨g, 0, none⟩) (wrL P).length k, .slice (some ⟨g2, 0, none⟩) (wrL P).length k2] w fun e w' => e = .returned (.bool true) ∧ Ext w w' := by
  obtain ⟨f, X, Y, hpv⟩ := pv_row P
  have hR := (h.gd k (Nat.le_trans (wrL_most P) hk)).read
  rw [hpv] at hR
  have HR := Lib.hid hR
  have HS := Lib.hid (fun w' (hE : Ext w w') => same_self g k g2 k2 (wrL P) w' (hE.held h.1 h.2.1) (wrL_bd P) (hE.held h2.1 h2.2.1))
  clear hR h h2 hk hpv
  generalize (wrL P).length = n at *
  go_enter Try.func49, Try.ntmps49
  go_wp2_with (first | (go_at_call 25; (with_reducible refine (HS.out _ (by (repeat (exact Ext.refl _)))).mono ?_); rintro e w' ⟨rfl, g1, rfl⟩) | (go_at_call 48; (with_reducible refine (points1_good _ _ (some ⟨g, 0, none⟩) n k f X Y _ (by go_simp) (fun w1 hE => HR.out w1 (Ext.trans (by (repeat (first | exact Ext.refl _ | refine Ext.trans ?_ (Ext.al _ _) | refine Ext.trans ?_ (Ext.gr _ _)))) hE))).mono ?_); rintro e w' ⟨rfl, g2, rfl⟩))
  refine bodyPost_ret (v := .bool true) (by simp [results, Try.results49, go_sem]) rfl ⟨rfl, (by (repeat (first | exact Ext.refl _ | refine Ext.trans ?_ (Ext.al _ _) | refine Ext.trans ?_ (Ext.gr _ _))))⟩
end Go.Proofs.Ytmepgkcijeobkaa
