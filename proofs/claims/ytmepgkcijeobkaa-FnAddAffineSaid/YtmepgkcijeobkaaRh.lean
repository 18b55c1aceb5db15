/-
  What is proved here: what the reference reads of 33 bytes with a 3 ahead.
  Conditions: those of each theorem.
-/
import Derived.Test.YtmepgkcijeobkaaProg
import Derived.Test.YtmepgkcijeobkaaRf
import Derived.WalkKit
import Derived.WalkSpells
import Derived.Outline
import Derived.Handy
import Derived.ProofKit
import Derived.Deep.QuietTactic
import Derived.BigQuiet
import Derived.Lib.Hide
import Derived.OpenShut
namespace Go.Proofs.Ytmepgkcijeobkaa
open Go Go.RowKit Ecp
set_option linter.unusedSimpArgs false
set_option linter.unusedVariables false

set_option maxHeartbeats 1000000 in
set_option maxRecDepth 100000 in
theorem Read_33z_30 (c o k : Nat) (x S r : Fp) (hS : x * x * x - 3 * x + cB = S) (hr : fpow S ((pN + 1) / 4) = r) (hp : (r.val : Int) % 2 = 0) (w : World) (hc : c < w.heap.size) (h0 : w.cell? ⟨c, o, none⟩ = some (.int .u8 3)) (hx : Held .u8 w c (o + 1) (bds 32 (x.val : Int)).reverse) (hk : 33 ≤ k) :
    Calls Try.prog 22 #[.slice (some ⟨c, o, none⟩) 33 k] w fun e w' => e = .returned (.tuple #[.agg (pc false (x.val : Int) ((0 - r : Fp).val : Int)), .bool (decide (r * r = S))]) ∧ Ext w w' := by
  have q0 : (w.alloc (.cells #[.bool false, .int .i64 0, .int .i64 0, .int .i64 0, .int .i64 0, .int .i64 0, .int .i64 0, .int .i64 0, .int .i64 0, .int .i64 0, .int .i64 0, .int .i64 0, .int .i64 0, .int .i64 0, .int .i64 0, .int .i64 0, .int .i64 0] 26)).cell? ⟨c, o, none⟩ = some (.int .u8 3) := cell_ext' (Ext.al w _) h0
  have HL := Lib.hid (And.intro (show c < (w.alloc (.cells #[.bool false, .int .i64 0, .int .i64 0, .int .i64 0, .int .i64 0, .int .i64 0, .int .i64 0, .int .i64 0, .int .i64 0, .int .i64 0, .int .i64 0, .int .i64 0, .int .i64 0, .int .i64 0, .int .i64 0, .int .i64 0, .int .i64 0] 26)).heap.size from (Ext.al w _).lt hc) (show Held .u8 (w.alloc (.cells #[.bool false, .int .i64 0, .int .i64 0, .int .i64 0, .int .i64 0, .int .i64 0, .int .i64 0, .int .i64 0, .int .i64 0, .int .i64 0, .int .i64 0, .int .i64 0, .int .i64 0, .int .i64 0, .int .i64 0, .int .i64 0, .int .i64 0] 26)) c (o + 1) (bds 32 (x.val : Int)).reverse from Held.alloc hx hc _))
  have HX := Lib.hid (fv_bd x)
  have HR := Lib.hid (fun w => (by have h := Right_row x w; rw [hS] at h; exact h : Calls Try.prog 54 #[.agg (ec (x.val : Int))] w _))
  have HT := Lib.hid (fun w => (by have h := Root_row S w; rw [hr] at h; exact h : Calls Try.prog 53 #[.agg (ec (S.val : Int))] w _))
  have HM := Lib.hid (fun w => (by have h := Minus_row 0 r w; rw [f0_val] at h; exact h : Calls Try.prog 55 #[.agg (ec 0), .agg (ec (r.val : Int))] w _))
  have hb := fv_lt x
  have HQ := Lib.hid h0
  have qb := parity64 ((r.val : Int) % 4294967296) (by omega) (by omega)
  rw [show (r.val : Int) % 4294967296 % 2 = 0 by omega] at qb
  have qv : bits BinOp.and IntKind.u8 3 1 = 1 := by decide +kernel
  generalize decide (r * r = S) = bo at HT ⊢
  generalize ((0 - r : Fp).val : Int) = N at HM ⊢
  generalize (x.val : Int) = X at *
  generalize (S.val : Int) = SI at *
  generalize (r.val : Int) = RI at *
  obtain ⟨d, hd⟩ : ∃ d, RI % 4294967296 = d := ⟨_, rfl⟩
  rw [hd] at qb
  have HD := Lib.hid hd
  clear hd
  have HB1 := Lib.hid (fun w => (by have h := Below_row X pI HX.out.1 HX.out.2 (by decide) pI_lt w; rw [decide_eq_true hb] at h; exact h : Calls Try.prog 43 #[.agg (ec X), .agg (ec pI)] w _))
  clear hb hS hr hp hx h0 hc
  have k33 : ¬ (k : Int) < 33 := by omega
  have k33' : (33 : Int) ≤ k := by omega
  clear hk
  go_enter Try.func22, Try.ntmps22
  go_wp2_with (first | (refine wpList_s2apO rfl 31 _ rfl _ _ _ _ _ Try.underlying31 rfl ?_) | (refine wpList_load_bcO rfl 31 _ rfl _ _ rfl X HL.out.2 _ Try.underlying31 rfl (inB _) ?_) | (refine wpList_load_rowW rfl 24 _ rfl _ rfl _ _ _ _ (by (with_reducible first | (simp only [hsA, setRow_heap]; rfl) | (repeat (fail)))) Try.underlying24 rfl (inE _) ?_) | (refine wpList_store_rowW rfl 24 _ _ rfl _ _ rfl rfl _ _ (by (with_reducible first | (simp only [hsA, setRow_heap]; rfl) | (repeat (fail)))) (inE _) (by simp only [ec_size, bc_size, pc_size, tc_size, ec_size, bc_size, pc_size, tc_size]; try rfl) (ec_one _) ?_; (try simp only [nmA])) | (refine wpList_store_rowW rfl 26 _ _ rfl _ _ rfl rfl _ _ (by (with_reducible first | (simp only [hsA, setRow_heap]; rfl) | (repeat (fail)))) (inP _ _ _) (by simp only [ec_size, bc_size, pc_size, tc_size, ec_size, bc_size, pc_size, tc_size]; try rfl) (pc_one _ _ _) ?_; (try simp only [nmA])) | (refine wpList_buildW rfl _ _ rfl _ (by rw [Array.toList_map]; first | exact builtP _ _ | exact builtE) ?_) | (go_at_call 42; go_must (with_reducible refine (Of_row X HX.out.1 HX.out.2 _).mono ?_); rintro e w' ⟨rfl, g1, rfl⟩) | (go_at_call 54; go_must (with_reducible refine (HR.out _).mono ?_); rintro e w' ⟨rfl, g4, rfl⟩) | (go_at_call 53; go_must (with_reducible refine (HT.out _).mono ?_); rintro e w' ⟨rfl, g5, rfl⟩) | (go_at_call 55; go_must (with_reducible refine (HM.out _).mono ?_); rintro e w' ⟨rfl, g6, rfl⟩) | (refine wp_grow (l := [_, _, _, _]) (by kernel_rfl) (by kernel_rfl) ?_; (try simp only [act_put_none]); (repeat (first | (go_big_quiet_want; refine quiet_load_row 24 _ rfl _ rfl _ _ _ _ (by rintro _ ⟨g9, rfl⟩; refine ext_row ⟨g9, rfl⟩ ?_; (with_reducible (simp only [hsA, setRow_heap]; rfl))) Try.underlying24 rfl (inE _) ?_; go_simp; go_big_quiet_on) | (go_big_quiet_want; go_big_quiet_op; first | go_big_quiet_on | go_big_quiet_call (first | (go_at_call 44; with_reducible exact calls_grow (Prime_row _)) | (go_at_call 43; with_reducible exact calls_grow (HB1.out _)))))); refine wpQuiet_nil ?_; intro _ hw'; obtain ⟨g', hw''⟩ := hw'; subst hw'') | (refine wp_grow (l := [_, _, _, _, _, _, _, _, _]) (by kernel_rfl) (by kernel_rfl) ?_; (try simp only [act_put_none]); (repeat (first | (go_big_quiet_want; refine quiet_load_u8 _ rfl c o rfl 3 (by rintro _ ⟨g9, rfl⟩; exact cell_ext' (by (repeat (first | exact Ext.refl _ | refine Ext.trans ?_ (Ext.al _ _) | refine Ext.trans ?_ ⟨_, rfl⟩)) : Ext w _) HQ.out) ?_; go_simp; go_big_quiet_on) | (go_big_quiet_want; refine quiet_load_e0 _ rfl _ rfl RI _ _ (by rintro _ ⟨g9, rfl⟩; refine ext_row ⟨g9, rfl⟩ ?_; (with_reducible (simp only [hsA, setRow_heap]; rfl))) d HD.out ?_; go_simp; go_big_quiet_on) | (go_big_quiet_want; go_big_quiet_op; go_big_quiet_on))); refine wpQuiet_nil ?_; intro _ hw'; obtain ⟨g', hw''⟩ := hw'; subst hw''))
  refine bodyPost_ret (results_cell_tmp rfl _ _ _ 26 _ (0, 0) _ rfl _ rfl (by (with_reducible (simp only [hsA, setRow_heap]; rfl))) Try.underlying26 rfl (inP _ _ _)) rfl ⟨?_, ?_⟩
  · rfl
  · (repeat (first | exact Ext.refl _ | refine Ext.trans ?_ (Ext.al _ _) | refine Ext.trans ?_ ⟨_, rfl⟩))
set_option maxHeartbeats 1000000 in
set_option maxRecDepth 100000 in
theorem Read_33z_31 (c o k : Nat) (x S r : Fp) (hS : x * x * x - 3 * x + cB = S) (hr : fpow S ((pN + 1) / 4) = r) (hp : (r.val : Int) % 2 = 1) (w : World) (hc : c < w.heap.size) (h0 : w.cell? ⟨c, o, none⟩ = some (.int .u8 3)) (hx : Held .u8 w c (o + 1) (bds 32 (x.val : Int)).reverse) (hk : 33 ≤ k) :
    Calls Try.prog 22 #[.slice (some ⟨c, o, none⟩) 33 k] w fun e w' => e = .returned (.tuple #[.agg (pc false (x.val : Int) (r.val : Int)), .bool (decide (r * r = S))]) ∧ Ext w w' := by
  have q0 : (w.alloc (.cells #[.bool false, .int .i64 0, .int .i64 0, .int .i64 0, .int .i64 0, .int .i64 0, .int .i64 0, .int .i64 0, .int .i64 0, .int .i64 0, .int .i64 0, .int .i64 0, .int .i64 0, .int .i64 0, .int .i64 0, .int .i64 0, .int .i64 0] 26)).cell? ⟨c, o, none⟩ = some (.int .u8 3) := cell_ext' (Ext.al w _) h0
  have HL := Lib.hid (And.intro (show c < (w.alloc (.cells #[.bool false, .int .i64 0, .int .i64 0, .int .i64 0, .int .i64 0, .int .i64 0, .int .i64 0, .int .i64 0, .int .i64 0, .int .i64 0, .int .i64 0, .int .i64 0, .int .i64 0, .int .i64 0, .int .i64 0, .int .i64 0, .int .i64 0] 26)).heap.size from (Ext.al w _).lt hc) (show Held .u8 (w.alloc (.cells #[.bool false, .int .i64 0, .int .i64 0, .int .i64 0, .int .i64 0, .int .i64 0, .int .i64 0, .int .i64 0, .int .i64 0, .int .i64 0, .int .i64 0, .int .i64 0, .int .i64 0, .int .i64 0, .int .i64 0, .int .i64 0, .int .i64 0] 26)) c (o + 1) (bds 32 (x.val : Int)).reverse from Held.alloc hx hc _))
  have HX := Lib.hid (fv_bd x)
  have HR := Lib.hid (fun w => (by have h := Right_row x w; rw [hS] at h; exact h : Calls Try.prog 54 #[.agg (ec (x.val : Int))] w _))
  have HT := Lib.hid (fun w => (by have h := Root_row S w; rw [hr] at h; exact h : Calls Try.prog 53 #[.agg (ec (S.val : Int))] w _))
  have HM := Lib.hid (fun w => (by have h := Minus_row 0 r w; rw [f0_val] at h; exact h : Calls Try.prog 55 #[.agg (ec 0), .agg (ec (r.val : Int))] w _))
  have hb := fv_lt x
  have HQ := Lib.hid h0
  have qb := parity64 ((r.val : Int) % 4294967296) (by omega) (by omega)
  rw [show (r.val : Int) % 4294967296 % 2 = 1 by omega] at qb
  have qv : bits BinOp.and IntKind.u8 3 1 = 1 := by decide +kernel
  generalize decide (r * r = S) = bo at HT ⊢
  generalize ((0 - r : Fp).val : Int) = N at HM ⊢
  generalize (x.val : Int) = X at *
  generalize (S.val : Int) = SI at *
  generalize (r.val : Int) = RI at *
  obtain ⟨d, hd⟩ : ∃ d, RI % 4294967296 = d := ⟨_, rfl⟩
  rw [hd] at qb
  have HD := Lib.hid hd
  clear hd
  have HB1 := Lib.hid (fun w => (by have h := Below_row X pI HX.out.1 HX.out.2 (by decide) pI_lt w; rw [decide_eq_true hb] at h; exact h : Calls Try.prog 43 #[.agg (ec X), .agg (ec pI)] w _))
  clear hb hS hr hp hx h0 hc
  have k33 : ¬ (k : Int) < 33 := by omega
  have k33' : (33 : Int) ≤ k := by omega
  clear hk
  go_enter Try.func22, Try.ntmps22
  go_wp2_with (first | (refine wpList_s2apO rfl 31 _ rfl _ _ _ _ _ Try.underlying31 rfl ?_) | (refine wpList_load_bcO rfl 31 _ rfl _ _ rfl X HL.out.2 _ Try.underlying31 rfl (inB _) ?_) | (refine wpList_load_rowW rfl 24 _ rfl _ rfl _ _ _ _ (by (with_reducible first | (simp only [hsA, setRow_heap]; rfl) | (repeat (fail)))) Try.underlying24 rfl (inE _) ?_) | (refine wpList_store_rowW rfl 24 _ _ rfl _ _ rfl rfl _ _ (by (with_reducible first | (simp only [hsA, setRow_heap]; rfl) | (repeat (fail)))) (inE _) (by simp only [ec_size, bc_size, pc_size, tc_size, ec_size, bc_size, pc_size, tc_size]; try rfl) (ec_one _) ?_; (try simp only [nmA])) | (refine wpList_store_rowW rfl 26 _ _ rfl _ _ rfl rfl _ _ (by (with_reducible first | (simp only [hsA, setRow_heap]; rfl) | (repeat (fail)))) (inP _ _ _) (by simp only [ec_size, bc_size, pc_size, tc_size, ec_size, bc_size, pc_size, tc_size]; try rfl) (pc_one _ _ _) ?_; (try simp only [nmA])) | (refine wpList_buildW rfl _ _ rfl _ (by rw [Array.toList_map]; exact builtP _ _) ?_) | (go_at_call 42; go_must (with_reducible refine (Of_row X HX.out.1 HX.out.2 _).mono ?_); rintro e w' ⟨rfl, g1, rfl⟩) | (go_at_call 54; go_must (with_reducible refine (HR.out _).mono ?_); rintro e w' ⟨rfl, g4, rfl⟩) | (go_at_call 53; go_must (with_reducible refine (HT.out _).mono ?_); rintro e w' ⟨rfl, g5, rfl⟩) | (refine wp_grow (l := [_, _, _, _]) (by kernel_rfl) (by kernel_rfl) ?_; (try simp only [act_put_none]); (repeat (first | (go_big_quiet_want; refine quiet_load_row 24 _ rfl _ rfl _ _ _ _ (by rintro _ ⟨g9, rfl⟩; refine ext_row ⟨g9, rfl⟩ ?_; (with_reducible (simp only [hsA, setRow_heap]; rfl))) Try.underlying24 rfl (inE _) ?_; go_simp; go_big_quiet_on) | (go_big_quiet_want; go_big_quiet_op; first | go_big_quiet_on | go_big_quiet_call (first | (go_at_call 44; with_reducible exact calls_grow (Prime_row _)) | (go_at_call 43; with_reducible exact calls_grow (HB1.out _)))))); refine wpQuiet_nil ?_; intro _ hw'; obtain ⟨g', hw''⟩ := hw'; subst hw'') | (refine wp_grow (l := [_, _, _, _, _, _, _, _, _]) (by kernel_rfl) (by kernel_rfl) ?_; (try simp only [act_put_none]); (repeat (first | (go_big_quiet_want; refine quiet_load_u8 _ rfl c o rfl 3 (by rintro _ ⟨g9, rfl⟩; exact cell_ext' (by (repeat (first | exact Ext.refl _ | refine Ext.trans ?_ (Ext.al _ _) | refine Ext.trans ?_ ⟨_, rfl⟩)) : Ext w _) HQ.out) ?_; go_simp; go_big_quiet_on) | (go_big_quiet_want; refine quiet_load_e0 _ rfl _ rfl RI _ _ (by rintro _ ⟨g9, rfl⟩; refine ext_row ⟨g9, rfl⟩ ?_; (with_reducible (simp only [hsA, setRow_heap]; rfl))) d HD.out ?_; go_simp; go_big_quiet_on) | (go_big_quiet_want; go_big_quiet_op; go_big_quiet_on))); refine wpQuiet_nil ?_; intro _ hw'; obtain ⟨g', hw''⟩ := hw'; subst hw''))
  refine bodyPost_ret (results_cell_tmp rfl _ _ _ 26 _ (0, 0) _ rfl _ rfl (by (with_reducible (simp only [hsA, setRow_heap]; rfl))) Try.underlying26 rfl (inP _ _ _)) rfl ⟨?_, ?_⟩
  · rfl
  · (repeat (first | exact Ext.refl _ | refine Ext.trans ?_ (Ext.al _ _) | refine Ext.trans ?_ ⟨_, rfl⟩))
end Go.Proofs.Ytmepgkcijeobkaa
