/-
  What FnSquareN says: a number that is squared so many times.
  Conditions: none.
-/
import Derived.Test.YtbdmicmohopmaaaRows
import Derived.Test.YtbdmicmohopmaaaEle
import Derived.Test.YtbdmicmohopmaaaSpecISpecJ
import Derived.Test.YtbdmicmohopmaaaLawPLawQ
import Derived.Test.YtbdmicmohopmaaaArrEq
import Derived.WalkKit
import Derived.WalkSpells
import Derived.Outline
import Derived.ProofKit
import Derived.OpenShut
namespace Go.Proofs.Ytbdmicmohopmaaa.fnSquareN
open Go Go.ChangeShapes Go.WideShapes Go.ChangeAt Go.RowKit Ecp
set_option linter.unusedSimpArgs false
set_option linter.unusedVariables false

structure SqS (w wr : World) (m g : Nat) (o S : Int) : Prop where
  ext : Ext w wr
  hm : w.heap.size ≤ m
  ne : g ≠ m
  o : wr.heap[m]? = some (.cells (ec o) 24 (0, 0))
  r : wr.heap[g]? = some (.cells (bc S) 22 (0, 0))
theorem SqS.step {w wr w' : World} {m g : Nat} {o S : Int} (h : SqS w wr m g o S) (hE : Ext wr w') (o' : Int) : SqS w (w'.setRow m (ec o')) m g o' S where
  ext := (h.ext.trans hE).setRow h.hm _
  hm := h.hm
  ne := h.ne
  o := setRow_heap _ _ _ _ _ _ (ext_heap hE h.o)
  r := by rw [setRow_other _ _ _ _ h.ne]; exact ext_heap hE h.r
set_option maxHeartbeats 4000000 in
set_option maxRecDepth 100000 in
theorem good (x : Fp) (m : Nat) (hm : m < 256) (w : World) : Calls Try.prog 3 #[.agg (bc (x.val : Int)), .int .u8 (m : Int)] w fun e w' => e = .returned (.bool true) ∧ Below w.heap.size w w' := by
  have HE := Lib.hid (fun w => (by have h := lawElement_any (x.val : Int) (fv_bd x).1 (fv_bd x).2 w; rw [decide_eq_true (fv_lt x)] at h; exact h : Calls Try.prog 11 #[.agg (bc (x.val : Int))] w fun e w' => e = .returned (.tuple #[.agg (ec (x.val : Int)), .bool true]) ∧ Ext w w'))
  have hm2 : (m : Int) < 256 := by omega
  have HS := Lib.hid (SquareN_good x (1 + (m : Int) % 100) (by omega) (by omega))
  obtain ⟨k, hk⟩ : ∃ k, k = m % 100 := ⟨_, rfl⟩
  have hz : (1 + (m : Int) % 100).toNat = k + 1 := by omega
  rw [hz] at HS
  have HK := Lib.hid (show (m : Int) % 100 = (k : Int) by omega)
  have hk2 : k < 100 := by omega
  clear hz hk
  obtain ⟨S, hS⟩ : ∃ S, S = fpow x (2 ^ (k + 1)) := ⟨_, rfl⟩
  rw [← hS] at HS
  have HO := Lib.hid (Of_row (S.val : Int) (fv_bd _).1 (fv_bd _).2)
  have hSx := Lib.hid hS
  clear hS
  go_enter Try.func3, Try.ntmps3
  go_wp2_with (first | (refine wpList_alloc_row rfl 22 _ rfl zeroB ?_) | (first | (refine wpList_load_rowW rfl 22 _ rfl _ rfl _ _ _ _ (by (with_reducible first | assumption | (simp only [hsA, setRow_heap]; first | done | rfl) | (repeat (first | assumption | (refine heap_at _ _ _ ?_; simp only [hsA, setRow_heap]; done) | refine ext_row (Ext.al _ _) ?_ | refine ext_row (Ext.gr _ _) ?_ | refine ext_row (by assumption) ?_)))) Try.underlying22 rfl (inB _) ?_) | (refine wpList_load_partW rfl 22 _ rfl _ _ rfl _ _ _ (by (with_reducible first | assumption | (simp only [hsA, setRow_heap]; first | done | rfl) | (repeat (first | assumption | (refine heap_at _ _ _ ?_; simp only [hsA, setRow_heap]; done) | refine ext_row (Ext.al _ _) ?_ | refine ext_row (Ext.gr _ _) ?_ | refine ext_row (by assumption) ?_)))) _ (by first | with_reducible exact pc_x _ _ _ | with_reducible exact pc_y _ _ _ | with_reducible exact tc_x _ _ _ | with_reducible exact tc_y _ _ _ | with_reducible exact tc_z _ _ _) _ Try.underlying22 rfl (inB _) ?_) | (refine wpList_store_rowW rfl 22 _ _ rfl _ _ rfl rfl _ _ (by (with_reducible first | assumption | (simp only [hsA, setRow_heap]; first | done | rfl) | (repeat (first | assumption | (refine heap_at _ _ _ ?_; simp only [hsA, setRow_heap]; done) | refine ext_row (Ext.al _ _) ?_ | refine ext_row (Ext.gr _ _) ?_ | refine ext_row (by assumption) ?_)))) (inB _) (by simp only [ec_size, bc_size, pc_size, tc_size, ec_size, bc_size, pc_size, tc_size]; try rfl) (bc_one _) ?_; (try simp only [nmA])) | (refine wpList_load_rowW rfl 24 _ rfl _ rfl _ _ _ _ (by (with_reducible first | assumption | (simp only [hsA, setRow_heap]; first | done | rfl) | (repeat (first | assumption | (refine heap_at _ _ _ ?_; simp only [hsA, setRow_heap]; done) | refine ext_row (Ext.al _ _) ?_ | refine ext_row (Ext.gr _ _) ?_ | refine ext_row (by assumption) ?_)))) Try.underlying24 rfl (inE _) ?_) | (refine wpList_load_partW rfl 24 _ rfl _ _ rfl _ _ _ (by (with_reducible first | assumption | (simp only [hsA, setRow_heap]; first | done | rfl) | (repeat (first | assumption | (refine heap_at _ _ _ ?_; simp only [hsA, setRow_heap]; done) | refine ext_row (Ext.al _ _) ?_ | refine ext_row (Ext.gr _ _) ?_ | refine ext_row (by assumption) ?_)))) _ (by first | with_reducible exact pc_x _ _ _ | with_reducible exact pc_y _ _ _ | with_reducible exact tc_x _ _ _ | with_reducible exact tc_y _ _ _ | with_reducible exact tc_z _ _ _) _ Try.underlying24 rfl (inE _) ?_) | (refine wpList_store_rowW rfl 24 _ _ rfl _ _ rfl rfl _ _ (by (with_reducible first | assumption | (simp only [hsA, setRow_heap]; first | done | rfl) | (repeat (first | assumption | (refine heap_at _ _ _ ?_; simp only [hsA, setRow_heap]; done) | refine ext_row (Ext.al _ _) ?_ | refine ext_row (Ext.gr _ _) ?_ | refine ext_row (by assumption) ?_)))) (inE _) (by simp only [ec_size, bc_size, pc_size, tc_size, ec_size, bc_size, pc_size, tc_size]; try rfl) (ec_one _) ?_; (try simp only [nmA])) | (go_at_call 11; go_must (with_reducible refine (HE.out _).mono ?_); rintro e w' ⟨rfl, g1, rfl⟩) | (go_at_call 12; go_must (with_reducible refine (HS.out _).mono ?_); rintro e w' ⟨rfl, g2, rfl⟩)))
  rw [HK.out]
  have hP0 : SqS w ((ext ((ext (w.alloc (.cells (bc (x.val : Int)) 22)) g1).alloc (.cells (ec (x.val : Int)) 24)) g2).alloc (.cells (bc (S.val : Int)) 22)) (w.heap.size + 1 + g1.os.length) (w.heap.size + 1 + g1.os.length + 1 + g2.os.length) (x.val : Int) (S.val : Int) := by
    refine ⟨by (repeat (first | exact Ext.refl _ | assumption | exact hE6 .. | refine Ext.trans ?_ (Ext.al _ _) | refine Ext.trans ?_ (Ext.gr _ _) | refine Ext.trans ?_ (by with_reducible assumption) | refine Ext.setRow ?_ (by first | omega | (simp <;> omega)) _)), by omega, by omega, ?_, ?_⟩
    · (with_reducible first | assumption | (simp only [hsA, setRow_heap]; first | done | rfl) | (repeat (first | assumption | (refine heap_at _ _ _ ?_; simp only [hsA, setRow_heap]; done) | refine ext_row (Ext.al _ _) ?_ | refine ext_row (Ext.gr _ _) ?_ | refine ext_row (by assumption) ?_)))
    · (with_reducible first | assumption | (simp only [hsA, setRow_heap]; first | done | rfl) | (repeat (first | assumption | (refine heap_at _ _ _ ?_; simp only [hsA, setRow_heap]; done) | refine ext_row (Ext.al _ _) ?_ | refine ext_row (Ext.gr _ _) ?_ | refine ext_row (by assumption) ?_)))
  have HP0 := Lib.hid hP0
  clear hP0
  obtain ⟨B5, h5⟩ : ∃ B5, B5 = w.heap.size + 1 + g1.os.length := ⟨_, rfl⟩
  obtain ⟨B8, h8⟩ : ∃ B8, B8 = w.heap.size + 1 + g1.os.length + 1 + g2.os.length := ⟨_, rfl⟩
  simp only [← h8] at HP0 ⊢
  simp only [← h5] at HP0 ⊢
  clear h5 h8
  go_loopw [28] (fun i wr => ∃ j : Nat, j ≤ k + 1 ∧ i = .int .i64 j ∧ Hid (SqS w wr B5 B8 ((fpow x (2 ^ j)).val : Int) (S.val : Int))) (fun i _ => k + 1 - (intOf i).toNat)
  case atStart =>
    refine ⟨0, by omega, rfl, Lib.hid ?_⟩
    rw [Nat.pow_zero, fpow_one]
    exact HP0.out
  case round =>
    obtain ⟨j, hj, rfl, HR⟩ := hrel
    have c1 := HR.out.o
    have c2 := HR.out.r
    by_cases hlt : j < k + 1
    · have hlt' : (j : Int) < 1 + (k : Int) := by omega
      have HTM := Lib.hid (Times_row (fpow x (2 ^ j)) (fpow x (2 ^ j)))
      rw [fpow_sq] at HTM
      go_wp2_with (first | (refine wpList_alloc_row rfl 22 _ rfl zeroB ?_) | (refine wpList_load_rowW rfl 24 _ rfl _ rfl _ _ _ _ (HR.out.o) Try.underlying24 rfl (inE _) ?_) | (refine wpList_store_rowW rfl 24 _ _ rfl _ _ rfl rfl _ _ (ext_heap hE7 HR.out.o) (inE _) (by simp only [ec_size]) (ec_one _) ?_) | (go_at_call 13; go_must (with_reducible refine (HTM.out _).mono ?_); rintro e w7 ⟨rfl, hE7⟩))
      exact ⟨⟨j + 1, by omega, by go_num, Lib.hid (HR.out.step hE7 _)⟩, by simp [intOf]; omega⟩
    · obtain rfl : j = k + 1 := by omega
      have hlt' : ¬ ((k + 1 : Nat) : Int) < 1 + (k : Int) := by omega
      rw [← hSx.out] at c1
      have hx := HR.out.ext
      go_wp2_with (first | (first | (refine wpList_load_rowW rfl 22 _ rfl _ rfl _ _ _ _ (by (with_reducible first | assumption | (simp only [hsA, setRow_heap]; first | done | rfl) | (repeat (first | assumption | (refine heap_at _ _ _ ?_; simp only [hsA, setRow_heap]; done) | refine ext_row (Ext.al _ _) ?_ | refine ext_row (Ext.gr _ _) ?_ | refine ext_row (by assumption) ?_)))) Try.underlying22 rfl (inB _) ?_) | (refine wpList_load_partW rfl 22 _ rfl _ _ rfl _ _ _ (by (with_reducible first | assumption | (simp only [hsA, setRow_heap]; first | done | rfl) | (repeat (first | assumption | (refine heap_at _ _ _ ?_; simp only [hsA, setRow_heap]; done) | refine ext_row (Ext.al _ _) ?_ | refine ext_row (Ext.gr _ _) ?_ | refine ext_row (by assumption) ?_)))) _ (by first | with_reducible exact pc_x _ _ _ | with_reducible exact pc_y _ _ _ | with_reducible exact tc_x _ _ _ | with_reducible exact tc_y _ _ _ | with_reducible exact tc_z _ _ _) _ Try.underlying22 rfl (inB _) ?_) | (refine wpList_store_rowW rfl 22 _ _ rfl _ _ rfl rfl _ _ (by (with_reducible first | assumption | (simp only [hsA, setRow_heap]; first | done | rfl) | (repeat (first | assumption | (refine heap_at _ _ _ ?_; simp only [hsA, setRow_heap]; done) | refine ext_row (Ext.al _ _) ?_ | refine ext_row (Ext.gr _ _) ?_ | refine ext_row (by assumption) ?_)))) (inB _) (by simp only [ec_size, bc_size, pc_size, tc_size, ec_size, bc_size, pc_size, tc_size]; try rfl) (bc_one _) ?_; (try simp only [nmA])) | (refine wpList_load_rowW rfl 24 _ rfl _ rfl _ _ _ _ (by (with_reducible first | assumption | (simp only [hsA, setRow_heap]; first | done | rfl) | (repeat (first | assumption | (refine heap_at _ _ _ ?_; simp only [hsA, setRow_heap]; done) | refine ext_row (Ext.al _ _) ?_ | refine ext_row (Ext.gr _ _) ?_ | refine ext_row (by assumption) ?_)))) Try.underlying24 rfl (inE _) ?_) | (refine wpList_load_partW rfl 24 _ rfl _ _ rfl _ _ _ (by (with_reducible first | assumption | (simp only [hsA, setRow_heap]; first | done | rfl) | (repeat (first | assumption | (refine heap_at _ _ _ ?_; simp only [hsA, setRow_heap]; done) | refine ext_row (Ext.al _ _) ?_ | refine ext_row (Ext.gr _ _) ?_ | refine ext_row (by assumption) ?_)))) _ (by first | with_reducible exact pc_x _ _ _ | with_reducible exact pc_y _ _ _ | with_reducible exact tc_x _ _ _ | with_reducible exact tc_y _ _ _ | with_reducible exact tc_z _ _ _) _ Try.underlying24 rfl (inE _) ?_) | (refine wpList_store_rowW rfl 24 _ _ rfl _ _ rfl rfl _ _ (by (with_reducible first | assumption | (simp only [hsA, setRow_heap]; first | done | rfl) | (repeat (first | assumption | (refine heap_at _ _ _ ?_; simp only [hsA, setRow_heap]; done) | refine ext_row (Ext.al _ _) ?_ | refine ext_row (Ext.gr _ _) ?_ | refine ext_row (by assumption) ?_)))) (inE _) (by simp only [ec_size, bc_size, pc_size, tc_size, ec_size, bc_size, pc_size, tc_size]; try rfl) (ec_one _) ?_; (try simp only [nmA])) | (go_at_call 14; go_must (with_reducible refine (HO.out _).mono ?_); rintro e w' ⟨rfl, g1, rfl⟩) | (refine wp_grow (l := [_, _, _, _, _, _, _, _]) (by kernel_rfl) (by kernel_rfl) ?_; (try simp only [act_put_none]); (repeat (first | (go_big_quiet_want; (with_reducible refine quiet_eqlE _ _ rfl _ _ _ rfl rfl (decide_eq_true rfl) ?_); go_simp; go_big_quiet_on) | (go_big_quiet_want; (with_reducible refine quiet_eqlB _ _ rfl _ rfl rfl ?_); go_simp; go_big_quiet_on) | go_big_quiet_skip | (go_big_quiet_want; refine quiet_load_row 22 _ rfl _ rfl _ _ _ _ (by rintro _ ⟨g9, rfl⟩; refine ext_row ⟨g9, rfl⟩ ?_; (with_reducible first | assumption | (simp only [hsA, setRow_heap]; first | done | rfl) | (repeat (first | assumption | (refine heap_at _ _ _ ?_; simp only [hsA, setRow_heap]; done) | refine ext_row (Ext.al _ _) ?_ | refine ext_row (Ext.gr _ _) ?_ | refine ext_row (by assumption) ?_)))) Try.underlying22 rfl (inB _) ?_; go_simp; go_big_quiet_on) | (go_big_quiet_want; refine quiet_load_part 22 _ rfl _ _ rfl _ _ _ (by rintro _ ⟨g9, rfl⟩; refine ext_row ⟨g9, rfl⟩ ?_; (with_reducible first | assumption | (simp only [hsA, setRow_heap]; first | done | rfl) | (repeat (first | assumption | (refine heap_at _ _ _ ?_; simp only [hsA, setRow_heap]; done) | refine ext_row (Ext.al _ _) ?_ | refine ext_row (Ext.gr _ _) ?_ | refine ext_row (by assumption) ?_)))) _ (by first | with_reducible exact pc_x _ _ _ | with_reducible exact pc_y _ _ _ | with_reducible exact tc_x _ _ _ | with_reducible exact tc_y _ _ _ | with_reducible exact tc_z _ _ _) _ Try.underlying22 rfl (inB _) ?_; go_simp; go_big_quiet_on) | (go_big_quiet_want; refine quiet_load_row 24 _ rfl _ rfl _ _ _ _ (by rintro _ ⟨g9, rfl⟩; refine ext_row ⟨g9, rfl⟩ ?_; (with_reducible first | assumption | (simp only [hsA, setRow_heap]; first | done | rfl) | (repeat (first | assumption | (refine heap_at _ _ _ ?_; simp only [hsA, setRow_heap]; done) | refine ext_row (Ext.al _ _) ?_ | refine ext_row (Ext.gr _ _) ?_ | refine ext_row (by assumption) ?_)))) Try.underlying24 rfl (inE _) ?_; go_simp; go_big_quiet_on) | (go_big_quiet_want; refine quiet_load_part 24 _ rfl _ _ rfl _ _ _ (by rintro _ ⟨g9, rfl⟩; refine ext_row ⟨g9, rfl⟩ ?_; (with_reducible first | assumption | (simp only [hsA, setRow_heap]; first | done | rfl) | (repeat (first | assumption | (refine heap_at _ _ _ ?_; simp only [hsA, setRow_heap]; done) | refine ext_row (Ext.al _ _) ?_ | refine ext_row (Ext.gr _ _) ?_ | refine ext_row (by assumption) ?_)))) _ (by first | with_reducible exact pc_x _ _ _ | with_reducible exact pc_y _ _ _ | with_reducible exact tc_x _ _ _ | with_reducible exact tc_y _ _ _ | with_reducible exact tc_z _ _ _) _ Try.underlying24 rfl (inE _) ?_; go_simp; go_big_quiet_on) | (go_big_quiet_want; go_big_quiet_op; first | go_big_quiet_on | go_big_quiet_call (first | (go_at_call 14; with_reducible exact calls_grow (HO.out _)))))); refine wpQuiet_nil ?_; intro _ hw'; obtain ⟨g', hw''⟩ := hw'; subst hw'')))
      refine bodyPost_ret (v := .bool true) (by simp [results, Try.results3, go_sem]) rfl ⟨rfl, Ext.below (by (repeat (first | exact Ext.refl _ | assumption | exact hE6 .. | refine Ext.trans ?_ (Ext.al _ _) | refine Ext.trans ?_ (Ext.gr _ _) | refine Ext.trans ?_ (by with_reducible assumption) | refine Ext.setRow ?_ (by first | omega | (simp <;> omega)) _)))⟩
theorem bad (X : Int) (h0 : 0 ≤ X) (h1 : X < R256) (hp : ¬ X < pI) (n : Int) (w : World) : Calls Try.prog 3 #[.agg (bc X), .int .u8 n] w fun e w' => e = .returned (.bool true) ∧ Below w.heap.size w w' := by
  have HE := Lib.hid (fun w => (by have h := lawElement_any X h0 h1 w; rw [decide_eq_false hp] at h; exact h : Calls Try.prog 11 #[.agg (bc X)] w fun e w' => e = .returned (.tuple #[.agg (ec X), .bool false]) ∧ Ext w w'))
  go_enter Try.func3, Try.ntmps3
  go_wp2_with (first | (refine wpList_alloc_row rfl 22 _ rfl zeroB ?_) | (first | (refine wpList_load_rowW rfl 22 _ rfl _ rfl _ _ _ _ (by (with_reducible first | assumption | (simp only [hsA, setRow_heap]; first | done | rfl) | (repeat (first | assumption | (refine heap_at _ _ _ ?_; simp only [hsA, setRow_heap]; done) | refine ext_row (Ext.al _ _) ?_ | refine ext_row (Ext.gr _ _) ?_ | refine ext_row (by assumption) ?_)))) Try.underlying22 rfl (inB _) ?_) | (refine wpList_load_partW rfl 22 _ rfl _ _ rfl _ _ _ (by (with_reducible first | assumption | (simp only [hsA, setRow_heap]; first | done | rfl) | (repeat (first | assumption | (refine heap_at _ _ _ ?_; simp only [hsA, setRow_heap]; done) | refine ext_row (Ext.al _ _) ?_ | refine ext_row (Ext.gr _ _) ?_ | refine ext_row (by assumption) ?_)))) _ (by first | with_reducible exact pc_x _ _ _ | with_reducible exact pc_y _ _ _ | with_reducible exact tc_x _ _ _ | with_reducible exact tc_y _ _ _ | with_reducible exact tc_z _ _ _) _ Try.underlying22 rfl (inB _) ?_) | (refine wpList_store_rowW rfl 22 _ _ rfl _ _ rfl rfl _ _ (by (with_reducible first | assumption | (simp only [hsA, setRow_heap]; first | done | rfl) | (repeat (first | assumption | (refine heap_at _ _ _ ?_; simp only [hsA, setRow_heap]; done) | refine ext_row (Ext.al _ _) ?_ | refine ext_row (Ext.gr _ _) ?_ | refine ext_row (by assumption) ?_)))) (inB _) (by simp only [ec_size, bc_size, pc_size, tc_size, ec_size, bc_size, pc_size, tc_size]; try rfl) (bc_one _) ?_; (try simp only [nmA])) | (refine wpList_load_rowW rfl 24 _ rfl _ rfl _ _ _ _ (by (with_reducible first | assumption | (simp only [hsA, setRow_heap]; first | done | rfl) | (repeat (first | assumption | (refine heap_at _ _ _ ?_; simp only [hsA, setRow_heap]; done) | refine ext_row (Ext.al _ _) ?_ | refine ext_row (Ext.gr _ _) ?_ | refine ext_row (by assumption) ?_)))) Try.underlying24 rfl (inE _) ?_) | (refine wpList_load_partW rfl 24 _ rfl _ _ rfl _ _ _ (by (with_reducible first | assumption | (simp only [hsA, setRow_heap]; first | done | rfl) | (repeat (first | assumption | (refine heap_at _ _ _ ?_; simp only [hsA, setRow_heap]; done) | refine ext_row (Ext.al _ _) ?_ | refine ext_row (Ext.gr _ _) ?_ | refine ext_row (by assumption) ?_)))) _ (by first | with_reducible exact pc_x _ _ _ | with_reducible exact pc_y _ _ _ | with_reducible exact tc_x _ _ _ | with_reducible exact tc_y _ _ _ | with_reducible exact tc_z _ _ _) _ Try.underlying24 rfl (inE _) ?_) | (refine wpList_store_rowW rfl 24 _ _ rfl _ _ rfl rfl _ _ (by (with_reducible first | assumption | (simp only [hsA, setRow_heap]; first | done | rfl) | (repeat (first | assumption | (refine heap_at _ _ _ ?_; simp only [hsA, setRow_heap]; done) | refine ext_row (Ext.al _ _) ?_ | refine ext_row (Ext.gr _ _) ?_ | refine ext_row (by assumption) ?_)))) (inE _) (by simp only [ec_size, bc_size, pc_size, tc_size, ec_size, bc_size, pc_size, tc_size]; try rfl) (ec_one _) ?_; (try simp only [nmA])) | (go_at_call 11; go_must (with_reducible refine (HE.out _).mono ?_); rintro e w' ⟨rfl, g1, rfl⟩)))
  refine bodyPost_ret (v := .bool true) (by simp [results, Try.results3, go_sem]) rfl ⟨rfl, Ext.below (by (repeat (first | exact Ext.refl _ | assumption | exact hE6 .. | refine Ext.trans ?_ (Ext.al _ _) | refine Ext.trans ?_ (Ext.gr _ _) | refine Ext.trans ?_ (by with_reducible assumption) | refine Ext.setRow ?_ (by first | omega | (simp <;> omega)) _)))⟩
theorem walk (l1 : List Int) (hl1 : l1.length = 32) (hw1 : ∀ x ∈ l1, (Lit.int .u8 x).wf = true) (n : Int) (hn : (Lit.int .u8 n).wf = true) (w : World) :
    Calls Try.prog 3 #[.agg (l1.map (Value.int .u8)).toArray, .int .u8 n] w fun e w' => e = .returned (.bool true) ∧ Below w.heap.size w w' := by
  have hb1 : ∀ x ∈ l1, 0 ≤ x ∧ x < 256 := fun x hx => by
    have := bounds_u8 (hw1 x hx)
    omega
  have hX := be_bd l1 hl1 hb1
  rw [← bc_be l1 hl1 hb1]
  generalize be l1 = X at hX ⊢
  have hn2 := bounds_u8 hn
  by_cases hp : X < pI
  · obtain ⟨x, rfl⟩ := fp_of hX.1 hp
    obtain ⟨m, rfl⟩ := Int.eq_ofNat_of_zero_le (show 0 ≤ n by omega)
    exact good x m (by omega) w
  · exact bad X hX.1 hX.2 hp n w

theorem own : ownKnob Try.prog.godebug = none := by kernel_rfl
theorem laidOut : laidOutB Try.prog = true := by kernel_rfl

set_option maxRecDepth 100000 in
theorem lifted (os : Os) (started : os.Started) (H : Type) (enc : TypeId × Value → H) :
    ReturnsInHanded {} Try.checked os 3 .any (Rows.fnSquareNSpec.pre6 enc Try.prog Try.f3 Rows.fnSquareNRow.domain false) (Rows.fnSquareNSpec.post enc Try.prog Try.f3 false true false false) := by
  refine returnsInHanded_of_change (C := Try.checked) own started (by kernel_rfl) Try.func3
    (ChangeSpec.witness6 (enc := enc) (C := Try.checked) false ⟨#[], #[.agg #[.int .u8 0, .int .u8 0, .int .u8 0, .int .u8 0, .int .u8 0, .int .u8 0, .int .u8 0, .int .u8 0, .int .u8 0, .int .u8 0, .int .u8 0, .int .u8 0, .int .u8 0, .int .u8 0, .int .u8 0, .int .u8 0, .int .u8 0, .int .u8 0, .int .u8 0, .int .u8 0, .int .u8 0, .int .u8 0, .int .u8 0, .int .u8 0, .int .u8 0, .int .u8 0, .int .u8 0, .int .u8 0, .int .u8 0, .int .u8 0, .int .u8 0, .int .u8 0], .int .u8 0], []⟩ 8 (by kernel_rfl) (by kernel_rfl) (by kernel_rfl) (by kernel_rfl)) ?_
  intro W base args ds gs before hval0 hW _ _
  have hval : ∀ (j : Nat) t v, Try.f3.params[j]? = some t → args[j]? = some v → Value.okWide Try.prog W .any base t v := hval0
  have hW' := hW
  obtain ⟨p, q, hA0, _, rfl, _, _⟩ := hW
  have hA : DataW.TrodAll enc Try.prog W 0 (fun _ => true) true Try.f3.params.toList args.toList ds p := hA0
  rw [Try.params3] at hA hval
  obtain ⟨v0, vs0, d0, ds0, p0, q0, hargs, rfl, rfl, h0, r0⟩ := trodAll_cons hA
  obtain ⟨v1, vs1, d1, ds1, p1, q1, rfl, rfl, rfl, h1, r1⟩ := trodAll_cons r0
  obtain ⟨rfl, rfl, rfl⟩ := trodAll_nil r1
  obtain rfl : args = #[v0, v1] := by cases args; simp_all
  obtain ⟨a0, rfl, l0, w0⟩ := okWide_ints 5 Try.underlying22 (by kernel_rfl) (by kernel_rfl) Try.underlying5 (hval 0 22 v0 rfl rfl)
  obtain ⟨a1, rfl, rfl, rfl, w1⟩ := open_int Try.underlying5 (hval 1 5 v1 rfl rfl) h1
  clear hA0 hval0
  refine (walk a0 l0 w0 a1 w1 W).mono fun e W' ⟨he, hg⟩ => ?_
  subst he
  exact ⟨_, rfl, law_post laidOut hW' rfl rfl Try.underlying4 rfl (by kernel_rfl) hg⟩

theorem over : Rows.fnSquareNRow.holds Try.pinned (OpenSpec.ofChange Rows.fnSquareNSpec) :=
  OpenClaim.holds_of_wide 3 Try.f3 rfl rfl rfl rfl rfl rfl rfl ⟨rfl, rfl, rfl, rfl, rfl⟩ rfl rfl rfl rfl rfl (by kernel_rfl) Try.func3 (by kernel_rfl)
    (of_decide_eq_true (by kernel_rfl)) (by unfold Func.isWrapper; first | (rw [if_pos (by decide +kernel)]; kernel_rfl) | (rw [if_neg (by decide +kernel)]; exact ⟨rfl, rfl⟩))
    (fun os started H enc _ => lifted os started H enc)

/-- THE STATEMENT. -/
theorem proved : Rows.FnSquareNSaid :=
  over
#print axioms proved
end Go.Proofs.Ytbdmicmohopmaaa.fnSquareN
