/-
  What is proved here: what the reference's sum and difference of elements return.
  Conditions: those of each theorem.
-/
import Derived.Test.YtgdjmgcolipcnaaProg
import Derived.Test.YtgdjmgcolipcnaaSpecR
import Derived.Test.YtgdjmgcolipcnaaElt
import Derived.WalkKit
import Derived.WalkSpells
import Derived.Outline
import Derived.Handy
import Derived.ProofKit
import Derived.Deep.QuietTactic
import Derived.BigQuiet
import Derived.Lib.Hide
import Derived.OpenShut
namespace Go.Proofs.Ytgdjmgcolipcnaa
open Go Go.RowKit Ecp
set_option linter.unusedSimpArgs false
set_option linter.unusedVariables false

/-- An element of the field as the reference holds it. -/
def Fv (x : Fp) : Value := E8 (x.val : Int)
theorem fv_bd (x : Fp) : 0 ≤ (x.val : Int) ∧ (x.val : Int) < R256 := ⟨Int.natCast_nonneg _, Int.lt_trans (by rw [pI_pN]; exact Int.ofNat_lt.2 x.isLt) pI_lt⟩
theorem E8_mod (z : Int) : E8 (z % pI) = Fv (zf z) := by unfold Fv; rw [zf_val]
theorem Fv_zf {z : Int} (h0 : 0 ≤ z) (h1 : z < pI) : E8 z = Fv (zf z) := by rw [← E8_mod, Int.emod_eq_of_lt h0 h1]
theorem Plus_val (a0 a1 a2 a3 a4 a5 a6 a7 b0 b1 b2 b3 b4 b5 b6 b7 : Int) (ha0 : 0 ≤ a0 ∧ a0 < 4294967296) (hb0 : 0 ≤ b0 ∧ b0 < 4294967296) (ha1 : 0 ≤ a1 ∧ a1 < 4294967296) (hb1 : 0 ≤ b1 ∧ b1 < 4294967296) (ha2 : 0 ≤ a2 ∧ a2 < 4294967296) (hb2 : 0 ≤ b2 ∧ b2 < 4294967296) (ha3 : 0 ≤ a3 ∧ a3 < 4294967296) (hb3 : 0 ≤ b3 ∧ b3 < 4294967296) (ha4 : 0 ≤ a4 ∧ a4 < 4294967296) (hb4 : 0 ≤ b4 ∧ b4 < 4294967296) (ha5 : 0 ≤ a5 ∧ a5 < 4294967296) (hb5 : 0 ≤ b5 ∧ b5 < 4294967296) (ha6 : 0 ≤ a6 ∧ a6 < 4294967296) (hb6 : 0 ≤ b6 ∧ b6 < 4294967296) (ha7 : 0 ≤ a7 ∧ a7 < 4294967296) (hb7 : 0 ≤ b7 ∧ b7 < 4294967296) :
    val [(wrap64 (a0 + b0)), (wrap64 (a1 + b1)), (wrap64 (a2 + b2)), (wrap64 (a3 + b3)), (wrap64 (a4 + b4)), (wrap64 (a5 + b5)), (wrap64 (a6 + b6)), (wrap64 (a7 + b7)), 0, 0, 0, 0, 0, 0, 0, 0] = val [a0, a1, a2, a3, a4, a5, a6, a7] + val [b0, b1, b2, b3, b4, b5, b6, b7] ∧ ∀ x ∈ [(wrap64 (a0 + b0)), (wrap64 (a1 + b1)), (wrap64 (a2 + b2)), (wrap64 (a3 + b3)), (wrap64 (a4 + b4)), (wrap64 (a5 + b5)), (wrap64 (a6 + b6)), (wrap64 (a7 + b7)), 0, 0, 0, 0, 0, 0, 0, 0], -8589934592 ≤ x ∧ x ≤ 8589934592 := by
  have w0 : wrap64 (a0 + b0) = a0 + b0 := by unfold wrap64; omega
  have w1 : wrap64 (a1 + b1) = a1 + b1 := by unfold wrap64; omega
  have w2 : wrap64 (a2 + b2) = a2 + b2 := by unfold wrap64; omega
  have w3 : wrap64 (a3 + b3) = a3 + b3 := by unfold wrap64; omega
  have w4 : wrap64 (a4 + b4) = a4 + b4 := by unfold wrap64; omega
  have w5 : wrap64 (a5 + b5) = a5 + b5 := by unfold wrap64; omega
  have w6 : wrap64 (a6 + b6) = a6 + b6 := by unfold wrap64; omega
  have w7 : wrap64 (a7 + b7) = a7 + b7 := by unfold wrap64; omega
  rw [w0, w1, w2, w3, w4, w5, w6, w7]
  clear w0 w1 w2 w3 w4 w5 w6 w7
  refine ⟨by simp only [val]; omega, fun x hx => ?_⟩
  simp only [List.mem_cons, List.not_mem_nil, or_false] at hx
  rcases hx with rfl | rfl | rfl | rfl | rfl | rfl | rfl | rfl | rfl | rfl | rfl | rfl | rfl | rfl | rfl | rfl <;> omega
set_option maxHeartbeats 8000000 in
set_option maxRecDepth 100000 in
theorem Plus_any (x y : Fp) (w : World) : Calls Try.prog 36 #[Fv x, Fv y] w fun e w' => e = .returned (Fv (x + y)) ∧ Ext w w' := by
  obtain ⟨a0, a1, a2, a3, a4, a5, a6, a7, hda, hea, ha0, ha1, ha2, ha3, ha4, ha5, ha6, ha7⟩ := E8_open (x.val : Int)
  obtain ⟨b0, b1, b2, b3, b4, b5, b6, b7, hdb, heb, hb0, hb1, hb2, hb3, hb4, hb5, hb6, hb7⟩ := E8_open (y.val : Int)
  have hV := Plus_val a0 a1 a2 a3 a4 a5 a6 a7 b0 b1 b2 b3 b4 b5 b6 b7 ha0 hb0 ha1 hb1 ha2 hb2 ha3 hb3 ha4 hb4 ha5 hb5 ha6 hb6 ha7 hb7
  have hva := val_E8 (fv_bd x).1 (fv_bd x).2
  have hvb := val_E8 (fv_bd y).1 (fv_bd y).2
  rw [hda] at hva
  rw [hdb] at hvb
  have hr := reduced_any (wrap64 (a0 + b0)) (wrap64 (a1 + b1)) (wrap64 (a2 + b2)) (wrap64 (a3 + b3)) (wrap64 (a4 + b4)) (wrap64 (a5 + b5)) (wrap64 (a6 + b6)) (wrap64 (a7 + b7)) 0 0 0 0 0 0 0 0 hV.2
  rw [hV.1, hva, hvb, E8_mod, zf_add, zf_nat, zf_nat] at hr
  have hR := Lib.hid hr
  unfold Fv
  rw [hea, heb]
  obtain ⟨R, hRR⟩ : ∃ R, R = E8 ((x + y : Fp).val : Int) := ⟨_, rfl⟩
  have HR : Hid (∀ w, Calls Try.prog 21 #[.agg #[.int .i64 (wrap64 (a0 + b0)), .int .i64 (wrap64 (a1 + b1)), .int .i64 (wrap64 (a2 + b2)), .int .i64 (wrap64 (a3 + b3)), .int .i64 (wrap64 (a4 + b4)), .int .i64 (wrap64 (a5 + b5)), .int .i64 (wrap64 (a6 + b6)), .int .i64 (wrap64 (a7 + b7)), .int .i64 0, .int .i64 0, .int .i64 0, .int .i64 0, .int .i64 0, .int .i64 0, .int .i64 0, .int .i64 0]] w fun e w' => e = .returned R ∧ Ext w w') := Lib.hid (by rw [hRR]; exact hR.out)
  obtain ⟨g0, g1, g2, g3, g4, g5, g6, g7, _, hg, _⟩ := E8_open ((x + y : Fp).val : Int)
  rw [hg] at hRR
  rw [hRR] at HR
  rw [← hg] at hRR
  rw [hg]
  clear hR hr hV hva hvb hda hea hdb heb hRR hg ha0 hb0 ha1 hb1 ha2 hb2 ha3 hb3 ha4 hb4 ha5 hb5 ha6 hb6 ha7 hb7
  go_enter Try.func36, Try.ntmps36
  go_wp2
  refine wp_loop_rounds 9 ?_
  iterate 9 (rw [rounds_succ]; go_wp2_with (first | (refine wp_quiet_tail 9 (by kernel_rfl) (by kernel_rfl) ?_; simp only [List.take_succ_cons, List.take_zero, List.drop_succ_cons, List.drop_zero]; (repeat (first | go_big_quiet_skip | (go_big_quiet_want; go_big_quiet_op; first | go_big_quiet_on))); refine wpQuiet_nil ?_; intro _ hw'; obtain ⟨nq, hw''⟩ := hw'; subst hw'') | (go_at_call 21; go_must (refine (HR.out _).mono ?_); rintro e w' ⟨rfl, gg, rfl⟩)))
  refine bodyPost_ret (v := ?v3) (by simp [results, Try.results36, go_sem]; rfl) rfl ⟨?_, ?_⟩
  · rfl
  · (refine Ext.of_below ?_; (repeat (first | exact Below.refl _ _ | refine below_drewN' ?_ _ | refine below_ext ?_ (by simp <;> omega) _ | apply Below.drew | refine Below.setCell ?_ (by simp <;> omega) _ | refine Below.alloc ?_ (by simp <;> omega) _)))
theorem Minus_val (a0 a1 a2 a3 a4 a5 a6 a7 b0 b1 b2 b3 b4 b5 b6 b7 : Int) (ha0 : 0 ≤ a0 ∧ a0 < 4294967296) (hb0 : 0 ≤ b0 ∧ b0 < 4294967296) (ha1 : 0 ≤ a1 ∧ a1 < 4294967296) (hb1 : 0 ≤ b1 ∧ b1 < 4294967296) (ha2 : 0 ≤ a2 ∧ a2 < 4294967296) (hb2 : 0 ≤ b2 ∧ b2 < 4294967296) (ha3 : 0 ≤ a3 ∧ a3 < 4294967296) (hb3 : 0 ≤ b3 ∧ b3 < 4294967296) (ha4 : 0 ≤ a4 ∧ a4 < 4294967296) (hb4 : 0 ≤ b4 ∧ b4 < 4294967296) (ha5 : 0 ≤ a5 ∧ a5 < 4294967296) (hb5 : 0 ≤ b5 ∧ b5 < 4294967296) (ha6 : 0 ≤ a6 ∧ a6 < 4294967296) (hb6 : 0 ≤ b6 ∧ b6 < 4294967296) (ha7 : 0 ≤ a7 ∧ a7 < 4294967296) (hb7 : 0 ≤ b7 ∧ b7 < 4294967296) :
    val [(wrap64 (a0 - b0)), (wrap64 (a1 - b1)), (wrap64 (a2 - b2)), (wrap64 (a3 - b3)), (wrap64 (a4 - b4)), (wrap64 (a5 - b5)), (wrap64 (a6 - b6)), (wrap64 (a7 - b7)), 0, 0, 0, 0, 0, 0, 0, 0] = val [a0, a1, a2, a3, a4, a5, a6, a7] - val [b0, b1, b2, b3, b4, b5, b6, b7] ∧ ∀ x ∈ [(wrap64 (a0 - b0)), (wrap64 (a1 - b1)), (wrap64 (a2 - b2)), (wrap64 (a3 - b3)), (wrap64 (a4 - b4)), (wrap64 (a5 - b5)), (wrap64 (a6 - b6)), (wrap64 (a7 - b7)), 0, 0, 0, 0, 0, 0, 0, 0], -8589934592 ≤ x ∧ x ≤ 8589934592 := by
  have w0 : wrap64 (a0 - b0) = a0 - b0 := by unfold wrap64; omega
  have w1 : wrap64 (a1 - b1) = a1 - b1 := by unfold wrap64; omega
  have w2 : wrap64 (a2 - b2) = a2 - b2 := by unfold wrap64; omega
  have w3 : wrap64 (a3 - b3) = a3 - b3 := by unfold wrap64; omega
  have w4 : wrap64 (a4 - b4) = a4 - b4 := by unfold wrap64; omega
  have w5 : wrap64 (a5 - b5) = a5 - b5 := by unfold wrap64; omega
  have w6 : wrap64 (a6 - b6) = a6 - b6 := by unfold wrap64; omega
  have w7 : wrap64 (a7 - b7) = a7 - b7 := by unfold wrap64; omega
  rw [w0, w1, w2, w3, w4, w5, w6, w7]
  clear w0 w1 w2 w3 w4 w5 w6 w7
  refine ⟨by simp only [val]; omega, fun x hx => ?_⟩
  simp only [List.mem_cons, List.not_mem_nil, or_false] at hx
  rcases hx with rfl | rfl | rfl | rfl | rfl | rfl | rfl | rfl | rfl | rfl | rfl | rfl | rfl | rfl | rfl | rfl <;> omega
set_option maxHeartbeats 8000000 in
set_option maxRecDepth 100000 in
theorem Minus_any (x y : Fp) (w : World) : Calls Try.prog 35 #[Fv x, Fv y] w fun e w' => e = .returned (Fv (x - y)) ∧ Ext w w' := by
  obtain ⟨a0, a1, a2, a3, a4, a5, a6, a7, hda, hea, ha0, ha1, ha2, ha3, ha4, ha5, ha6, ha7⟩ := E8_open (x.val : Int)
  obtain ⟨b0, b1, b2, b3, b4, b5, b6, b7, hdb, heb, hb0, hb1, hb2, hb3, hb4, hb5, hb6, hb7⟩ := E8_open (y.val : Int)
  have hV := Minus_val a0 a1 a2 a3 a4 a5 a6 a7 b0 b1 b2 b3 b4 b5 b6 b7 ha0 hb0 ha1 hb1 ha2 hb2 ha3 hb3 ha4 hb4 ha5 hb5 ha6 hb6 ha7 hb7
  have hva := val_E8 (fv_bd x).1 (fv_bd x).2
  have hvb := val_E8 (fv_bd y).1 (fv_bd y).2
  rw [hda] at hva
  rw [hdb] at hvb
  have hr := reduced_any (wrap64 (a0 - b0)) (wrap64 (a1 - b1)) (wrap64 (a2 - b2)) (wrap64 (a3 - b3)) (wrap64 (a4 - b4)) (wrap64 (a5 - b5)) (wrap64 (a6 - b6)) (wrap64 (a7 - b7)) 0 0 0 0 0 0 0 0 hV.2
  rw [hV.1, hva, hvb, E8_mod, zf_sub, zf_nat, zf_nat] at hr
  have hR := Lib.hid hr
  unfold Fv
  rw [hea, heb]
  obtain ⟨R, hRR⟩ : ∃ R, R = E8 ((x - y : Fp).val : Int) := ⟨_, rfl⟩
  have HR : Hid (∀ w, Calls Try.prog 21 #[.agg #[.int .i64 (wrap64 (a0 - b0)), .int .i64 (wrap64 (a1 - b1)), .int .i64 (wrap64 (a2 - b2)), .int .i64 (wrap64 (a3 - b3)), .int .i64 (wrap64 (a4 - b4)), .int .i64 (wrap64 (a5 - b5)), .int .i64 (wrap64 (a6 - b6)), .int .i64 (wrap64 (a7 - b7)), .int .i64 0, .int .i64 0, .int .i64 0, .int .i64 0, .int .i64 0, .int .i64 0, .int .i64 0, .int .i64 0]] w fun e w' => e = .returned R ∧ Ext w w') := Lib.hid (by rw [hRR]; exact hR.out)
  obtain ⟨g0, g1, g2, g3, g4, g5, g6, g7, _, hg, _⟩ := E8_open ((x - y : Fp).val : Int)
  rw [hg] at hRR
  rw [hRR] at HR
  rw [← hg] at hRR
  rw [hg]
  clear hR hr hV hva hvb hda hea hdb heb hRR hg ha0 hb0 ha1 hb1 ha2 hb2 ha3 hb3 ha4 hb4 ha5 hb5 ha6 hb6 ha7 hb7
  go_enter Try.func35, Try.ntmps35
  go_wp2
  refine wp_loop_rounds 9 ?_
  iterate 9 (rw [rounds_succ]; go_wp2_with (first | (refine wp_quiet_tail 9 (by kernel_rfl) (by kernel_rfl) ?_; simp only [List.take_succ_cons, List.take_zero, List.drop_succ_cons, List.drop_zero]; (repeat (first | go_big_quiet_skip | (go_big_quiet_want; go_big_quiet_op; first | go_big_quiet_on))); refine wpQuiet_nil ?_; intro _ hw'; obtain ⟨nq, hw''⟩ := hw'; subst hw'') | (go_at_call 21; go_must (refine (HR.out _).mono ?_); rintro e w' ⟨rfl, gg, rfl⟩)))
  refine bodyPost_ret (v := ?v3) (by simp [results, Try.results35, go_sem]; rfl) rfl ⟨?_, ?_⟩
  · rfl
  · (refine Ext.of_below ?_; (repeat (first | exact Below.refl _ _ | refine below_drewN' ?_ _ | refine below_ext ?_ (by simp <;> omega) _ | apply Below.drew | refine Below.setCell ?_ (by simp <;> omega) _ | refine Below.alloc ?_ (by simp <;> omega) _)))
end Go.Proofs.Ytgdjmgcolipcnaa
/-
  What is proved here: what the reference's small constants return.
  Conditions: those of each theorem.
-/
namespace Go.Proofs.Ytgdjmgcolipcnaa
open Go Go.RowKit Ecp
set_option linter.unusedSimpArgs false
set_option linter.unusedVariables false

theorem Fv_cB : Fv cB = .agg #[.int .i64 668098635, .int .i64 1003371582, .int .i64 3428036854, .int .i64 1696401072, .int .i64 1989707452, .int .i64 3018571093, .int .i64 2855965671, .int .i64 1522939352] := by rfl
theorem B_any (w : World) : Calls Try.prog 39 #[] w fun e w' => e = .returned (Fv cB) ∧ Ext w w' := by
  rw [Fv_cB]
  go_enter Try.func39, Try.ntmps39
  go_wp2
  refine bodyPost_ret (v := ?v2) (by simp [results, Try.results39, go_sem]; rfl) rfl ⟨?_, ?_⟩
  · rfl
  · (refine Ext.of_below ?_; (repeat (first | exact Below.refl _ _ | refine below_drewN' ?_ _ | refine below_ext ?_ (by simp <;> omega) _ | apply Below.drew | refine Below.setCell ?_ (by simp <;> omega) _ | refine Below.alloc ?_ (by simp <;> omega) _)))
theorem Small_any (n : Int) (w : World) : Calls Try.prog 11 #[.int .i64 n] w fun e w' => e = .returned (.agg #[.int .i64 n, .int .i64 0, .int .i64 0, .int .i64 0, .int .i64 0, .int .i64 0, .int .i64 0, .int .i64 0]) ∧ Ext w w' := by
  go_enter Try.func11, Try.ntmps11
  go_wp2
  refine bodyPost_ret (v := ?v2) (by simp [results, Try.results11, go_sem]; rfl) rfl ⟨?_, ?_⟩
  · rfl
  · (refine Ext.of_below ?_; (repeat (first | exact Below.refl _ _ | refine below_drewN' ?_ _ | refine below_ext ?_ (by simp <;> omega) _ | apply Below.drew | refine Below.setCell ?_ (by simp <;> omega) _ | refine Below.alloc ?_ (by simp <;> omega) _)))
end Go.Proofs.Ytgdjmgcolipcnaa
