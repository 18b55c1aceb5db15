/-
  What is proved here: what the reference's functions on points return.
  Conditions: those of each theorem.
-/
import Derived.Test.YtnjjelepcnofjaaProg
import Derived.Test.YtnjjelepcnofjaaSpecI
import Derived.WalkKit
import Derived.WalkSpells
import Derived.Outline
import Derived.Handy
import Derived.ProofKit
import Derived.Deep.QuietTactic
import Derived.BigQuiet
import Derived.Lib.Hide
import Derived.OpenShut
namespace Go.Proofs.Ytnjjelepcnofjaa
open Go Go.RowKit Ecp
set_option linter.unusedSimpArgs false
set_option linter.unusedVariables false

theorem ec_open (S : Int) : ∃ d0 d1 d2 d3 d4 d5 d6 d7 : Int, ec S = #[.int .i64 d0, .int .i64 d1, .int .i64 d2, .int .i64 d3, .int .i64 d4, .int .i64 d5, .int .i64 d6, .int .i64 d7] := by
  obtain ⟨d0, d1, d2, d3, d4, d5, d6, d7, hd, _⟩ := E8_open S
  refine ⟨d0, d1, d2, d3, d4, d5, d6, d7, ?_⟩
  unfold ec
  rw [hd]
  rfl
theorem fv_lt (x : Fp) : (x.val : Int) < pI := by rw [pI_pN]; exact Int.ofNat_lt.2 x.isLt
theorem ec_f0 : ec ((0 : Fp).val : Int) = #[.int .i64 0, .int .i64 0, .int .i64 0, .int .i64 0, .int .i64 0, .int .i64 0, .int .i64 0, .int .i64 0] := by
  rw [f0_val, ec_lit0]
theorem builtE : Try.prog.built 26 [] = some (ec ((0 : Fp).val : Int)) := by
  rw [ec_f0]
  kernel_rfl
theorem pc_lit (f : Bool) (x0 x1 x2 x3 x4 x5 x6 x7 y0 y1 y2 y3 y4 y5 y6 y7 : Int) (X Y : Int) (hX : ec X = #[.int .i64 x0, .int .i64 x1, .int .i64 x2, .int .i64 x3, .int .i64 x4, .int .i64 x5, .int .i64 x6, .int .i64 x7]) (hY : ec Y = #[.int .i64 y0, .int .i64 y1, .int .i64 y2, .int .i64 y3, .int .i64 y4, .int .i64 y5, .int .i64 y6, .int .i64 y7]) :
    pc f X Y = #[.bool f, .int .i64 x0, .int .i64 x1, .int .i64 x2, .int .i64 x3, .int .i64 x4, .int .i64 x5, .int .i64 x6, .int .i64 x7, .int .i64 y0, .int .i64 y1, .int .i64 y2, .int .i64 y3, .int .i64 y4, .int .i64 y5, .int .i64 y6, .int .i64 y7] := by
  unfold pc
  rw [hX, hY]
  rfl
theorem builtP (X Y : Int) : Try.prog.built 28 [(1, .agg (ec X)), (2, .agg (ec Y))] = some (pc false X Y) := by
  obtain ⟨x0, x1, x2, x3, x4, x5, x6, x7, hX⟩ := ec_open X
  obtain ⟨y0, y1, y2, y3, y4, y5, y6, y7, hY⟩ := ec_open Y
  rw [pc_lit _ _ _ _ _ _ _ _ _ _ _ _ _ _ _ _ _ _ _ hX hY, hX, hY]
  kernel_rfl
theorem builtF : Try.prog.built 28 [(0, .bool true)] = some (pc true ((0 : Fp).val : Int) ((0 : Fp).val : Int)) := by
  rw [pc_lit _ _ _ _ _ _ _ _ _ _ _ _ _ _ _ _ _ _ _ ec_f0 ec_f0]
  kernel_rfl
theorem builtZ : Try.prog.built 28 [] = some (pc false ((0 : Fp).val : Int) ((0 : Fp).val : Int)) := by
  rw [pc_lit _ _ _ _ _ _ _ _ _ _ _ _ _ _ _ _ _ _ _ ec_f0 ec_f0]
  kernel_rfl
theorem pc_0 (f : Bool) (X Y : Int) : (pc f X Y)[0]? = some (.bool f) := by
  unfold pc
  simp [Array.getElem?_append]
/-- A point as the reference holds it. -/
def pv : Pt → Array Value
  | .far => pc true ((0 : Fp).val : Int) ((0 : Fp).val : Int)
  | .aff x y => pc false (x.val : Int) (y.val : Int)
theorem pc_inj {f g : Bool} {x y u v : Fp} (h : pc f (x.val : Int) (y.val : Int) = pc g (u.val : Int) (v.val : Int)) : f = g ∧ x = u ∧ y = v := by
  have e1 := pc_x f (x.val : Int) (y.val : Int)
  have e2 := pc_x g (u.val : Int) (v.val : Int)
  have e3 := pc_y f (x.val : Int) (y.val : Int)
  have e4 := pc_y g (u.val : Int) (v.val : Int)
  have e5 := pc_0 f (x.val : Int) (y.val : Int)
  have e6 := pc_0 g (u.val : Int) (v.val : Int)
  rw [ec_size] at e1 e2 e3 e4
  rw [h] at e1 e3 e5
  have hi : ∀ a b : Fp, ec (a.val : Int) = ec (b.val : Int) → a = b := fun a b hab => by
    have := decide_eq_decide.1 (digs_fp a b)
    refine this.1 ?_
    unfold ec at hab
    have h2 := congrArg Array.toList hab
    simp only [List.toList_toArray] at h2
    exact (List.map_inj_right (fun p q hpq => by injection hpq)).1 h2
  refine ⟨?_, hi _ _ (e1.symm.trans e2), hi _ _ (e3.symm.trans e4)⟩
  have := e5.symm.trans e6
  injection this with this
  injection this
set_option maxHeartbeats 1000000 in
set_option maxRecDepth 100000 in
theorem Opposite_aff (x y : Fp) (w : World) : Calls Try.prog 9 #[.agg (pc false (x.val : Int) (y.val : Int))] w fun e w' => e = .returned (.agg (pc false (x.val : Int) ((0 - y : Fp).val : Int))) ∧ Ext w w' := by
  obtain ⟨x0, x1, x2, x3, x4, x5, x6, x7, hX⟩ := ec_open (x.val : Int)
  obtain ⟨y0, y1, y2, y3, y4, y5, y6, y7, hY⟩ := ec_open (y.val : Int)
  obtain ⟨r0, r1, r2, r3, r4, r5, r6, r7, hR⟩ := ec_open ((0 - y : Fp).val : Int)
  rw [pc_lit _ _ _ _ _ _ _ _ _ _ _ _ _ _ _ _ _ _ _ hX hY, pc_lit _ _ _ _ _ _ _ _ _ _ _ _ _ _ _ _ _ _ _ hX hR]
  have HM := Lib.hid (fun w => (by have h := Minus_row 0 y w; rw [ec_f0, hY, hR] at h; exact h : Calls Try.prog 21 #[.agg #[.int .i64 0, .int .i64 0, .int .i64 0, .int .i64 0, .int .i64 0, .int .i64 0, .int .i64 0, .int .i64 0], .agg #[.int .i64 y0, .int .i64 y1, .int .i64 y2, .int .i64 y3, .int .i64 y4, .int .i64 y5, .int .i64 y6, .int .i64 y7]] w fun e w' => e = .returned (.agg #[.int .i64 r0, .int .i64 r1, .int .i64 r2, .int .i64 r3, .int .i64 r4, .int .i64 r5, .int .i64 r6, .int .i64 r7]) ∧ Ext w w'))
  clear hX hY hR
  go_enter Try.func9, Try.ntmps9
  go_wp2_with (first
    | (refine wpList_load_rowW rfl 28 _ rfl _ rfl _ #[.bool false, .int .i64 x0, .int .i64 x1, .int .i64 x2, .int .i64 x3, .int .i64 x4, .int .i64 x5, .int .i64 x6, .int .i64 x7, .int .i64 r0, .int .i64 r1, .int .i64 r2, .int .i64 r3, .int .i64 r4, .int .i64 r5, .int .i64 r6, .int .i64 r7] _ _ (by (first | with_reducible assumption | (simp only [heap_at, heap_past, heap_ext, heap_drewN', setRow_size, setRow_heap, size_alloc, size_drewN', size_ext, ltA0, eqA0, qeA0, ltA1, eqA1, qeA1, ltA2, eqA2, qeA2, ltA3, eqA3, qeA3, ltA4, eqA4, qeA4, ltA5, eqA5, qeA5, ltA6, eqA6, qeA6, ltA7, eqA7, qeA7, ltA8, eqA8, qeA8]; first | done | with_reducible rfl))) Try.underlying28 rfl (by kernel_rfl) ?_)
    | (refine wpList_store_rowW rfl 28 _ _ rfl _ _ rfl rfl _ _ (by (first | with_reducible assumption | (simp only [heap_at, heap_past, heap_ext, heap_drewN', setRow_size, setRow_heap, size_alloc, size_drewN', size_ext, ltA0, eqA0, qeA0, ltA1, eqA1, qeA1, ltA2, eqA2, qeA2, ltA3, eqA3, qeA3, ltA4, eqA4, qeA4, ltA5, eqA5, qeA5, ltA6, eqA6, qeA6, ltA7, eqA7, qeA7, ltA8, eqA8, qeA8]; first | done | with_reducible rfl))) (by kernel_rfl) rfl (by simp [Value.oneCell']) ?_; (try simp only [setRow_size, setRow_drewN, setRow_drew, setRow_alloc_at, setRow_alloc_past, setRow_ext, size_alloc, size_drewN', size_ext, ltA0, ltA1, ltA2, ltA3, ltA4, ltA5, ltA6, ltA7, ltA8]))
    | (go_at_call 21; go_must (with_reducible refine (HM.out _).mono ?_); rintro e w' ⟨rfl, g1, rfl⟩))
  refine bodyPost_ret (results_cell_row rfl _ _ _ 28 _ (0, 0) _ rfl (by (first | with_reducible assumption | (simp only [heap_at, heap_past, heap_ext, heap_drewN', setRow_size, setRow_heap, size_alloc, size_drewN', size_ext, ltA0, eqA0, qeA0, ltA1, eqA1, qeA1, ltA2, eqA2, qeA2, ltA3, eqA3, qeA3, ltA4, eqA4, qeA4, ltA5, eqA5, qeA5, ltA6, eqA6, qeA6, ltA7, eqA7, qeA7, ltA8, eqA8, qeA8]; first | done | with_reducible rfl))) Try.underlying28 rfl (by kernel_rfl)) rfl ⟨rfl, ?_⟩
  (repeat (first | exact Ext.refl _ | assumption | exact hE6 .. | refine Ext.trans ?_ (Ext.al _ _) | refine Ext.trans ?_ (Ext.gr _ _) | refine Ext.setRow ?_ (by first | omega | (simp <;> omega)) _))
set_option maxHeartbeats 1000000 in
set_option maxRecDepth 100000 in
theorem Opposite_far (w : World) : Calls Try.prog 9 #[.agg (pc true ((0 : Fp).val : Int) ((0 : Fp).val : Int))] w fun e w' => e = .returned (.agg (pc true ((0 : Fp).val : Int) ((0 : Fp).val : Int))) ∧ Ext w w' := by
  have P0 := pc_0
  generalize ((0 : Fp).val : Int) = Z
  go_enter Try.func9, Try.ntmps9
  go_wp2_with (first
      | (refine wpList_load_rowW rfl 28 _ rfl _ rfl _ _ _ _ (by (first | with_reducible assumption | (simp only [heap_at, heap_past, heap_ext, heap_drewN', setRow_size, setRow_heap, size_alloc, size_drewN', size_ext, ltA0, eqA0, qeA0, ltA1, eqA1, qeA1, ltA2, eqA2, qeA2, ltA3, eqA3, qeA3, ltA4, eqA4, qeA4, ltA5, eqA5, qeA5, ltA6, eqA6, qeA6, ltA7, eqA7, qeA7, ltA8, eqA8, qeA8]; first | done | with_reducible rfl))) Try.underlying28 rfl (inP _ _ _) ?_)
      | (refine wpList_load_partW rfl 28 _ rfl _ _ rfl _ _ _ (by (first | with_reducible assumption | (simp only [heap_at, heap_past, heap_ext, heap_drewN', setRow_size, setRow_heap, size_alloc, size_drewN', size_ext, ltA0, eqA0, qeA0, ltA1, eqA1, qeA1, ltA2, eqA2, qeA2, ltA3, eqA3, qeA3, ltA4, eqA4, qeA4, ltA5, eqA5, qeA5, ltA6, eqA6, qeA6, ltA7, eqA7, qeA7, ltA8, eqA8, qeA8]; first | done | with_reducible rfl))) _ (by first | with_reducible exact pc_x _ _ _ | with_reducible exact pc_y _ _ _ | with_reducible exact tc_x _ _ _ | with_reducible exact tc_y _ _ _ | with_reducible exact tc_z _ _ _) _ Try.underlying28 rfl (inP _ _ _) ?_)
      | (refine wpList_store_rowW rfl 28 _ _ rfl _ _ rfl rfl _ _ (by (first | with_reducible assumption | (simp only [heap_at, heap_past, heap_ext, heap_drewN', setRow_size, setRow_heap, size_alloc, size_drewN', size_ext, ltA0, eqA0, qeA0, ltA1, eqA1, qeA1, ltA2, eqA2, qeA2, ltA3, eqA3, qeA3, ltA4, eqA4, qeA4, ltA5, eqA5, qeA5, ltA6, eqA6, qeA6, ltA7, eqA7, qeA7, ltA8, eqA8, qeA8]; first | done | with_reducible rfl))) (inP _ _ _) (by simp only [ec_size, bc_size, pc_size, tc_size, ec_size, bc_size, pc_size, tc_size]; try rfl) (pc_one _ _ _) ?_; (try simp only [setRow_size, setRow_drewN, setRow_drew, setRow_alloc_at, setRow_alloc_past, setRow_ext, size_alloc, size_drewN', size_ext, ltA0, ltA1, ltA2, ltA3, ltA4, ltA5, ltA6, ltA7, ltA8])))
  refine bodyPost_ret (results_cell_row rfl _ _ _ 28 _ (0, 0) _ rfl (by (first | with_reducible assumption | (simp only [heap_at, heap_past, heap_ext, heap_drewN', setRow_size, setRow_heap, size_alloc, size_drewN', size_ext, ltA0, eqA0, qeA0, ltA1, eqA1, qeA1, ltA2, eqA2, qeA2, ltA3, eqA3, qeA3, ltA4, eqA4, qeA4, ltA5, eqA5, qeA5, ltA6, eqA6, qeA6, ltA7, eqA7, qeA7, ltA8, eqA8, qeA8]; first | done | with_reducible rfl))) Try.underlying28 rfl (inP _ _ _)) rfl ⟨rfl, ?_⟩
  (repeat (first | exact Ext.refl _ | assumption | exact hE6 .. | refine Ext.trans ?_ (Ext.al _ _) | refine Ext.trans ?_ (Ext.gr _ _) | refine Ext.setRow ?_ (by first | omega | (simp <;> omega)) _))
theorem Opposite_any (p : Pt) (w : World) : Calls Try.prog 9 #[.agg (pv p)] w fun e w' => e = .returned (.agg (pv (pneg p))) ∧ Ext w w' := by
  cases p with
  | far => exact Opposite_far w
  | aff x y => exact Opposite_aff x y w
end Go.Proofs.Ytnjjelepcnofjaa
