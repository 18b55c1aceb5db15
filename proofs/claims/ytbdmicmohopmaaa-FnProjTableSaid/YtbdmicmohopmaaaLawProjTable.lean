/-
  What FnProjTable says: up to 16 times a point.
  Conditions: none.
-/
import Derived.Test.YtbdmicmohopmaaaRows
import Derived.Test.YtbdmicmohopmaaaLawPLawQ
import Derived.Test.YtbdmicmohopmaaaSumLawA
import Derived.Test.YtbdmicmohopmaaaMulTabMlt
import Derived.WalkKit
import Derived.WalkSpells
import Derived.Outline
import Derived.ProofKit
import Derived.OpenShut
namespace Go.Proofs.Ytbdmicmohopmaaa.fnProjTable
open Go Go.ChangeShapes Go.WideShapes Go.ChangeAt Go.RowKit Ecp
set_option linter.unusedSimpArgs false
set_option linter.unusedVariables false

theorem builtB31 (k : Nat) (h : k ≤ 16) : Try.prog.built 22 [(31, .int .u8 (k : Int))] = some (bc (k : Int)) := by
  rcases (show k = 0 ∨ k = 1 ∨ k = 2 ∨ k = 3 ∨ k = 4 ∨ k = 5 ∨ k = 6 ∨ k = 7 ∨ k = 8 ∨ k = 9 ∨ k = 10 ∨ k = 11 ∨ k = 12 ∨ k = 13 ∨ k = 14 ∨ k = 15 ∨ k = 16 by omega) with rfl | rfl | rfl | rfl | rfl | rfl | rfl | rfl | rfl | rfl | rfl | rfl | rfl | rfl | rfl | rfl | rfl
  all_goals (rw [bc_def]; kernel_rfl)
set_option maxHeartbeats 4000000 in
set_option maxRecDepth 100000 in
theorem bad (X Y Z : Int) (q : Pt) (hA : ∀ w, Calls Try.prog 15 #[.agg (tc X Y Z)] w fun e w' => e = .returned (.tuple #[.agg (pv q), .bool false]) ∧ Ext w w') (n : Int) (w : World) :
    Calls Try.prog 10 #[.agg (tc X Y Z), .int .u8 n] w fun e w' => e = .returned (.bool true) ∧ Below w.heap.size w w' := by
  obtain ⟨f, P1, P2, hpv⟩ := pv_pc q
  rw [hpv] at hA
  have HA1 := Lib.hid hA
  clear hA hpv
  go_enter Try.func10, Try.ntmps10
  go_wp2_with (first | (refine wpList_alloc_row rfl 33 _ rfl zeroT ?_) | (go_at_call 15; go_must (with_reducible refine (HA1.out _).mono ?_); rintro e w' ⟨rfl, g1, rfl⟩) | (first | (refine wpList_load_rowW rfl 33 _ rfl _ rfl _ _ _ _ (by (with_reducible first | assumption | (simp only [hsA, setRow_heap]; first | done | rfl) | (repeat (first | assumption | (refine heap_at _ _ _ ?_; simp only [hsA, setRow_heap]; done) | refine ext_row (Ext.al _ _) ?_ | refine ext_row (Ext.gr _ _) ?_ | refine ext_row (by assumption) ?_)))) Try.underlying33 rfl (inT _ _ _) ?_) | (refine wpList_load_partW rfl 33 _ rfl _ _ rfl _ _ _ (by (with_reducible first | assumption | (simp only [hsA, setRow_heap]; first | done | rfl) | (repeat (first | assumption | (refine heap_at _ _ _ ?_; simp only [hsA, setRow_heap]; done) | refine ext_row (Ext.al _ _) ?_ | refine ext_row (Ext.gr _ _) ?_ | refine ext_row (by assumption) ?_)))) _ (by first | with_reducible exact pc_x _ _ _ | with_reducible exact pc_y _ _ _ | with_reducible exact tc_x _ _ _ | with_reducible exact tc_y _ _ _ | with_reducible exact tc_z _ _ _) _ Try.underlying33 rfl (inT _ _ _) ?_) | (refine wpList_store_rowW rfl 33 _ _ rfl _ _ rfl rfl _ _ (by (with_reducible first | assumption | (simp only [hsA, setRow_heap]; first | done | rfl) | (repeat (first | assumption | (refine heap_at _ _ _ ?_; simp only [hsA, setRow_heap]; done) | refine ext_row (Ext.al _ _) ?_ | refine ext_row (Ext.gr _ _) ?_ | refine ext_row (by assumption) ?_)))) (inT _ _ _) (by simp only [ec_size, bc_size, pc_size, tc_size, ec_size, bc_size, pc_size, tc_size]; try rfl) (tc_one _ _ _) ?_; (try simp only [nmA])) | (refine wpList_load_rowW rfl 35 _ rfl _ rfl _ _ _ _ (by (with_reducible first | assumption | (simp only [hsA, setRow_heap]; first | done | rfl) | (repeat (first | assumption | (refine heap_at _ _ _ ?_; simp only [hsA, setRow_heap]; done) | refine ext_row (Ext.al _ _) ?_ | refine ext_row (Ext.gr _ _) ?_ | refine ext_row (by assumption) ?_)))) Try.underlying35 rfl (inP _ _ _) ?_) | (refine wpList_load_partW rfl 35 _ rfl _ _ rfl _ _ _ (by (with_reducible first | assumption | (simp only [hsA, setRow_heap]; first | done | rfl) | (repeat (first | assumption | (refine heap_at _ _ _ ?_; simp only [hsA, setRow_heap]; done) | refine ext_row (Ext.al _ _) ?_ | refine ext_row (Ext.gr _ _) ?_ | refine ext_row (by assumption) ?_)))) _ (by first | with_reducible exact pc_x _ _ _ | with_reducible exact pc_y _ _ _ | with_reducible exact tc_x _ _ _ | with_reducible exact tc_y _ _ _ | with_reducible exact tc_z _ _ _) _ Try.underlying35 rfl (inP _ _ _) ?_) | (refine wpList_store_rowW rfl 35 _ _ rfl _ _ rfl rfl _ _ (by (with_reducible first | assumption | (simp only [hsA, setRow_heap]; first | done | rfl) | (repeat (first | assumption | (refine heap_at _ _ _ ?_; simp only [hsA, setRow_heap]; done) | refine ext_row (Ext.al _ _) ?_ | refine ext_row (Ext.gr _ _) ?_ | refine ext_row (by assumption) ?_)))) (inP _ _ _) (by simp only [ec_size, bc_size, pc_size, tc_size, ec_size, bc_size, pc_size, tc_size]; try rfl) (pc_one _ _ _) ?_; (try simp only [nmA]))))
  refine bodyPost_ret (v := .bool true) (by simp [results, Try.results10, go_sem]) rfl ⟨rfl, Ext.below (by (repeat (first | exact Ext.refl _ | assumption | exact hE6 .. | refine Ext.trans ?_ (Ext.al _ _) | refine Ext.trans ?_ (Ext.gr _ _) | refine Ext.trans ?_ (by with_reducible assumption) | refine Ext.setRow ?_ (by first | omega | (simp <;> omega)) _)))⟩
set_option maxHeartbeats 4000000 in
set_option maxRecDepth 100000 in
theorem good (x y z : Fp) (hok : affOk x y z) (hA : ∀ w, Calls Try.prog 15 #[.agg (tc (x.val : Int) (y.val : Int) (z.val : Int))] w fun e w' => e = .returned (.tuple #[.agg (pv (affP x y z)), .bool true]) ∧ Ext w w') (m : Nat) (hm : m < 256) (w : World) :
    Calls Try.prog 10 #[.agg (tc (x.val : Int) (y.val : Int) (z.val : Int)), .int .u8 (m : Int)] w fun e w' => e = .returned (.bool true) ∧ Below w.heap.size w w' := by
  have hm2 : (m : Int) < 256 := by omega
  have hM := Multiple_row (m % 17) (by have : ((m % 17 : Nat) : Int) < 17 := by omega
                                       simp only [R256]; omega) (affP x y z)
  have hB31 := builtB31 (m % 17) (by omega)
  have hP := ProjTable_any x y z hok (m % 17) (by omega)
  obtain ⟨f, P1, P2, hpv⟩ := pv_pc (affP x y z)
  obtain ⟨f3, P3, R3, hpv3⟩ := pv_pc (pm (m % 17) (affP x y z))
  have HV3 := Lib.hid hpv3
  rw [hpv] at hA hM
  rw [hpv3] at hM
  rw [show ((m % 17 : Nat) : Int) = (m : Int) % 17 by omega] at hM hB31 hP
  have HA1 := Lib.hid hA
  have HM := Lib.hid hM
  have HB31 := Lib.hid hB31
  have HP := Lib.hid hP
  clear hA hM hB31 hP hpv hpv3 hok
  go_enter Try.func10, Try.ntmps10
  go_wp2_with (first | (refine wpList_alloc_row rfl 33 _ rfl zeroT ?_) | (go_at_call 15; go_must (with_reducible refine (HA1.out _).mono ?_); rintro e w' ⟨rfl, g1, rfl⟩) | (go_at_call 33; go_must (with_reducible refine (HP.out _).mono ?_); rintro e w' ⟨X2, Y2, Z2, rfl, ⟨g2, rfl⟩, ho2, ha2⟩; have hT1 := isTriple_true X2 Y2 Z2 _ ho2 ha2; rw [HV3.out] at hT1; have HT1 := Lib.hid hT1; clear hT1 ho2 ha2) | (first | (refine wpList_load_rowW rfl 33 _ rfl _ rfl _ _ _ _ (by (with_reducible first | assumption | (simp only [hsA, setRow_heap]; first | done | rfl) | (repeat (first | assumption | (refine heap_at _ _ _ ?_; simp only [hsA, setRow_heap]; done) | refine ext_row (Ext.al _ _) ?_ | refine ext_row (Ext.gr _ _) ?_ | refine ext_row (by assumption) ?_)))) Try.underlying33 rfl (inT _ _ _) ?_) | (refine wpList_load_partW rfl 33 _ rfl _ _ rfl _ _ _ (by (with_reducible first | assumption | (simp only [hsA, setRow_heap]; first | done | rfl) | (repeat (first | assumption | (refine heap_at _ _ _ ?_; simp only [hsA, setRow_heap]; done) | refine ext_row (Ext.al _ _) ?_ | refine ext_row (Ext.gr _ _) ?_ | refine ext_row (by assumption) ?_)))) _ (by first | with_reducible exact pc_x _ _ _ | with_reducible exact pc_y _ _ _ | with_reducible exact tc_x _ _ _ | with_reducible exact tc_y _ _ _ | with_reducible exact tc_z _ _ _) _ Try.underlying33 rfl (inT _ _ _) ?_) | (refine wpList_store_rowW rfl 33 _ _ rfl _ _ rfl rfl _ _ (by (with_reducible first | assumption | (simp only [hsA, setRow_heap]; first | done | rfl) | (repeat (first | assumption | (refine heap_at _ _ _ ?_; simp only [hsA, setRow_heap]; done) | refine ext_row (Ext.al _ _) ?_ | refine ext_row (Ext.gr _ _) ?_ | refine ext_row (by assumption) ?_)))) (inT _ _ _) (by simp only [ec_size, bc_size, pc_size, tc_size, ec_size, bc_size, pc_size, tc_size]; try rfl) (tc_one _ _ _) ?_; (try simp only [nmA])) | (refine wpList_load_rowW rfl 35 _ rfl _ rfl _ _ _ _ (by (with_reducible first | assumption | (simp only [hsA, setRow_heap]; first | done | rfl) | (repeat (first | assumption | (refine heap_at _ _ _ ?_; simp only [hsA, setRow_heap]; done) | refine ext_row (Ext.al _ _) ?_ | refine ext_row (Ext.gr _ _) ?_ | refine ext_row (by assumption) ?_)))) Try.underlying35 rfl (inP _ _ _) ?_) | (refine wpList_load_partW rfl 35 _ rfl _ _ rfl _ _ _ (by (with_reducible first | assumption | (simp only [hsA, setRow_heap]; first | done | rfl) | (repeat (first | assumption | (refine heap_at _ _ _ ?_; simp only [hsA, setRow_heap]; done) | refine ext_row (Ext.al _ _) ?_ | refine ext_row (Ext.gr _ _) ?_ | refine ext_row (by assumption) ?_)))) _ (by first | with_reducible exact pc_x _ _ _ | with_reducible exact pc_y _ _ _ | with_reducible exact tc_x _ _ _ | with_reducible exact tc_y _ _ _ | with_reducible exact tc_z _ _ _) _ Try.underlying35 rfl (inP _ _ _) ?_) | (refine wpList_store_rowW rfl 35 _ _ rfl _ _ rfl rfl _ _ (by (with_reducible first | assumption | (simp only [hsA, setRow_heap]; first | done | rfl) | (repeat (first | assumption | (refine heap_at _ _ _ ?_; simp only [hsA, setRow_heap]; done) | refine ext_row (Ext.al _ _) ?_ | refine ext_row (Ext.gr _ _) ?_ | refine ext_row (by assumption) ?_)))) (inP _ _ _) (by simp only [ec_size, bc_size, pc_size, tc_size, ec_size, bc_size, pc_size, tc_size]; try rfl) (pc_one _ _ _) ?_; (try simp only [nmA])) | (go_at_call 34; go_must (with_reducible refine (HM.out _).mono ?_); rintro e w' ⟨rfl, g1, rfl⟩) | (go_at_call 21; go_must (with_reducible refine (HT1.out _).mono ?_); rintro e w' ⟨rfl, g2, rfl⟩) | (refine wp_grow (l := [_, _, _, _, _, _, _, _, _, _]) (by kernel_rfl) (by kernel_rfl) ?_; (try simp only [act_put_none]); (repeat (first | (go_big_quiet_want; refine quiet_build _ _ rfl _ (by rw [Array.toList_map]; exact HB31.out) ?_; go_simp; go_big_quiet_on) | go_big_quiet_skip | (go_big_quiet_want; refine quiet_load_row 33 _ rfl _ rfl _ _ _ _ (by rintro _ ⟨g9, rfl⟩; refine ext_row ⟨g9, rfl⟩ ?_; (with_reducible first | assumption | (simp only [hsA, setRow_heap]; first | done | rfl) | (repeat (first | assumption | (refine heap_at _ _ _ ?_; simp only [hsA, setRow_heap]; done) | refine ext_row (Ext.al _ _) ?_ | refine ext_row (Ext.gr _ _) ?_ | refine ext_row (by assumption) ?_)))) Try.underlying33 rfl (inT _ _ _) ?_; go_simp; go_big_quiet_on) | (go_big_quiet_want; refine quiet_load_part 33 _ rfl _ _ rfl _ _ _ (by rintro _ ⟨g9, rfl⟩; refine ext_row ⟨g9, rfl⟩ ?_; (with_reducible first | assumption | (simp only [hsA, setRow_heap]; first | done | rfl) | (repeat (first | assumption | (refine heap_at _ _ _ ?_; simp only [hsA, setRow_heap]; done) | refine ext_row (Ext.al _ _) ?_ | refine ext_row (Ext.gr _ _) ?_ | refine ext_row (by assumption) ?_)))) _ (by first | with_reducible exact pc_x _ _ _ | with_reducible exact pc_y _ _ _ | with_reducible exact tc_x _ _ _ | with_reducible exact tc_y _ _ _ | with_reducible exact tc_z _ _ _) _ Try.underlying33 rfl (inT _ _ _) ?_; go_simp; go_big_quiet_on) | (go_big_quiet_want; refine quiet_load_row 35 _ rfl _ rfl _ _ _ _ (by rintro _ ⟨g9, rfl⟩; refine ext_row ⟨g9, rfl⟩ ?_; (with_reducible first | assumption | (simp only [hsA, setRow_heap]; first | done | rfl) | (repeat (first | assumption | (refine heap_at _ _ _ ?_; simp only [hsA, setRow_heap]; done) | refine ext_row (Ext.al _ _) ?_ | refine ext_row (Ext.gr _ _) ?_ | refine ext_row (by assumption) ?_)))) Try.underlying35 rfl (inP _ _ _) ?_; go_simp; go_big_quiet_on) | (go_big_quiet_want; refine quiet_load_part 35 _ rfl _ _ rfl _ _ _ (by rintro _ ⟨g9, rfl⟩; refine ext_row ⟨g9, rfl⟩ ?_; (with_reducible first | assumption | (simp only [hsA, setRow_heap]; first | done | rfl) | (repeat (first | assumption | (refine heap_at _ _ _ ?_; simp only [hsA, setRow_heap]; done) | refine ext_row (Ext.al _ _) ?_ | refine ext_row (Ext.gr _ _) ?_ | refine ext_row (by assumption) ?_)))) _ (by first | with_reducible exact pc_x _ _ _ | with_reducible exact pc_y _ _ _ | with_reducible exact tc_x _ _ _ | with_reducible exact tc_y _ _ _ | with_reducible exact tc_z _ _ _) _ Try.underlying35 rfl (inP _ _ _) ?_; go_simp; go_big_quiet_on) | (go_big_quiet_want; go_big_quiet_op; first | go_big_quiet_on | go_big_quiet_call (first | (go_at_call 34; with_reducible exact calls_grow (HM.out _)) | (go_at_call 21; with_reducible exact calls_grow (HT1.out _)))))); refine wpQuiet_nil ?_; intro _ hw'; obtain ⟨g', hw''⟩ := hw'; subst hw'')))
  refine bodyPost_ret (v := .bool true) (by simp [results, Try.results10, go_sem]) rfl ⟨rfl, Ext.below (by (repeat (first | exact Ext.refl _ | assumption | exact hE6 .. | refine Ext.trans ?_ (Ext.al _ _) | refine Ext.trans ?_ (Ext.gr _ _) | refine Ext.trans ?_ (by with_reducible assumption) | refine Ext.setRow ?_ (by first | omega | (simp <;> omega)) _)))⟩
theorem walk (l : List Int) (hl : l.length = 96) (hw : ∀ x ∈ l, (Lit.int .u8 x).wf = true) (n : Int) (hn : (Lit.int .u8 n).wf = true) (w : World) :
    Calls Try.prog 10 #[.agg (l.map (Value.int .u8)).toArray, .int .u8 n] w fun e w' => e = .returned (.bool true) ∧ Below w.heap.size w w' := by
  have hb : ∀ x ∈ l, 0 ≤ x ∧ x < 256 := fun x hx => by
    have := bounds_u8 (hw x hx)
    omega
  obtain ⟨X, Y, Z, hX0, hX, hY0, hY, hZ0, hZ, e⟩ := tc_of l hl hb
  rw [e]
  clear e hl hb hw
  have hn2 := bounds_u8 hn
  rcases affine_cases X Y Z hX0 hX hY0 hY hZ0 hZ with ⟨q, hA⟩ | ⟨x, y, z, rfl, rfl, rfl, hok, hA⟩
  · exact bad X Y Z q hA n w
  · obtain ⟨m, rfl⟩ := Int.eq_ofNat_of_zero_le (show 0 ≤ n by omega)
    exact good x y z hok hA m (by omega) w

theorem own : ownKnob Try.prog.godebug = none := by kernel_rfl
theorem laidOut : laidOutB Try.prog = true := by kernel_rfl

set_option maxRecDepth 100000 in
theorem lifted (os : Os) (started : os.Started) (H : Type) (enc : TypeId × Value → H) :
    ReturnsInHanded {} Try.checked os 10 .any (Rows.fnProjTableSpec.pre6 enc Try.prog Try.f10 Rows.fnProjTableRow.domain false) (Rows.fnProjTableSpec.post enc Try.prog Try.f10 false true false false) := by
  refine returnsInHanded_of_change (C := Try.checked) own started (by kernel_rfl) Try.func10
    (ChangeSpec.witness6 (enc := enc) (C := Try.checked) false ⟨#[], #[.agg #[.int .u8 0, .int .u8 0, .int .u8 0, .int .u8 0, .int .u8 0, .int .u8 0, .int .u8 0, .int .u8 0, .int .u8 0, .int .u8 0, .int .u8 0, .int .u8 0, .int .u8 0, .int .u8 0, .int .u8 0, .int .u8 0, .int .u8 0, .int .u8 0, .int .u8 0, .int .u8 0, .int .u8 0, .int .u8 0, .int .u8 0, .int .u8 0, .int .u8 0, .int .u8 0, .int .u8 0, .int .u8 0, .int .u8 0, .int .u8 0, .int .u8 0, .int .u8 0, .int .u8 0, .int .u8 0, .int .u8 0, .int .u8 0, .int .u8 0, .int .u8 0, .int .u8 0, .int .u8 0, .int .u8 0, .int .u8 0, .int .u8 0, .int .u8 0, .int .u8 0, .int .u8 0, .int .u8 0, .int .u8 0, .int .u8 0, .int .u8 0, .int .u8 0, .int .u8 0, .int .u8 0, .int .u8 0, .int .u8 0, .int .u8 0, .int .u8 0, .int .u8 0, .int .u8 0, .int .u8 0, .int .u8 0, .int .u8 0, .int .u8 0, .int .u8 0, .int .u8 0, .int .u8 0, .int .u8 0, .int .u8 0, .int .u8 0, .int .u8 0, .int .u8 0, .int .u8 0, .int .u8 0, .int .u8 0, .int .u8 0, .int .u8 0, .int .u8 0, .int .u8 0, .int .u8 0, .int .u8 0, .int .u8 0, .int .u8 0, .int .u8 0, .int .u8 0, .int .u8 0, .int .u8 0, .int .u8 0, .int .u8 0, .int .u8 0, .int .u8 0, .int .u8 0, .int .u8 0, .int .u8 0, .int .u8 0, .int .u8 0, .int .u8 0], .int .u8 0], []⟩ 8 (by kernel_rfl) (by kernel_rfl) (by kernel_rfl) (by kernel_rfl)) ?_
  intro W base args ds gs before hval0 hW _ _
  have hval : ∀ (j : Nat) t v, Try.f10.params[j]? = some t → args[j]? = some v → Value.okWide Try.prog W .any base t v := hval0
  have hW' := hW
  obtain ⟨p, q, hA0, _, rfl, _, _⟩ := hW
  have hA : DataW.TrodAll enc Try.prog W 0 (fun _ => true) true Try.f10.params.toList args.toList ds p := hA0
  rw [Try.params10] at hA hval
  obtain ⟨v0, vs0, d0, ds0, p0, q0, hargs, rfl, rfl, h0, r0⟩ := trodAll_cons hA
  obtain ⟨v1, vs1, d1, ds1, p1, q1, rfl, rfl, rfl, h1, r1⟩ := trodAll_cons r0
  obtain ⟨rfl, rfl, rfl⟩ := trodAll_nil r1
  obtain rfl : args = #[v0, v1] := by cases args; simp_all
  obtain ⟨a0, rfl, l0, w0⟩ := okWide_row (n := 96) (e := 5) (k := .u8) Try.underlying33 (by kernel_rfl) (by kernel_rfl) Try.underlying5 (hval 0 33 v0 rfl rfl)
  obtain ⟨a1, rfl, rfl, rfl, w1⟩ := open_int Try.underlying5 (hval 1 5 v1 rfl rfl) h1
  clear hA0 hval0
  refine (walk a0 l0 w0 a1 w1 W).mono fun e W' ⟨he, hg⟩ => ?_
  subst he
  exact ⟨_, rfl, law_post laidOut hW' rfl rfl Try.underlying4 rfl (by kernel_rfl) hg⟩

theorem over : Rows.fnProjTableRow.holds Try.pinned (OpenSpec.ofChange Rows.fnProjTableSpec) :=
  OpenClaim.holds_of_wide 10 Try.f10 rfl rfl rfl rfl rfl rfl rfl ⟨rfl, rfl, rfl, rfl, rfl⟩ rfl rfl rfl rfl rfl (by kernel_rfl) Try.func10 (by kernel_rfl)
    (of_decide_eq_true (by kernel_rfl)) (by unfold Func.isWrapper; first | (rw [if_pos (by decide +kernel)]; kernel_rfl) | (rw [if_neg (by decide +kernel)]; exact ⟨rfl, rfl⟩))
    (fun os started H enc _ => lifted os started H enc)

/-- THE STATEMENT. -/
theorem proved : Rows.FnProjTableSaid :=
  over
#print axioms proved
end Go.Proofs.Ytbdmicmohopmaaa.fnProjTable
