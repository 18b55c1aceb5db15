/-
  What is proved here: what the reference's small functions (words of 32 bits) return.
  Conditions: those of each theorem.
-/
import Derived.Test.YtgdjmgcolipcnaaProg
import Derived.Test.YtgdjmgcolipcnaaKit
import Derived.Test.YtgdjmgcolipcnaaNumRegMem
import Derived.WalkKit
import Derived.WalkSpells
import Derived.Outline
import Derived.Handy
import Derived.ProofKit
import Derived.Deep.QuietTactic
import Derived.BigQuiet
import Derived.Lib.Hide
namespace Go.Proofs.Ytgdjmgcolipcnaa
open Go.RowKit
set_option linter.unusedSimpArgs false
set_option linter.unusedVariables false

set_option maxHeartbeats 1000000 in
set_option maxRecDepth 100000 in
theorem carried_any (l : List Int) (hl : l.length = 8) (hb : ∀ x ∈ l, -1152921504606846976 ≤ x ∧ x ≤ 1152921504606846976) (w : World) :
    Calls Try.prog 38 #[.agg (l.map (Value.int .i64)).toArray] w fun e w' => e = .returned (.tuple #[E8 (val l), .int .i64 (cy 8 (val l))]) ∧ Ext w w' := by
  match l, hl, hb with
  | [w0, w1, w2, w3, w4, w5, w6, w7], _, hb =>
    obtain ⟨a0, b0⟩ := hb w0 (by simp)
    obtain ⟨a1, b1⟩ := hb w1 (by simp)
    obtain ⟨a2, b2⟩ := hb w2 (by simp)
    obtain ⟨a3, b3⟩ := hb w3 (by simp)
    obtain ⟨a4, b4⟩ := hb w4 (by simp)
    obtain ⟨a5, b5⟩ := hb w5 (by simp)
    obtain ⟨a6, b6⟩ := hb w6 (by simp)
    obtain ⟨a7, b7⟩ := hb w7 (by simp)
    clear hb
    have e1 : chn 0 [w0, w1, w2, w3, w4, w5, w6, w7] = digs 8 (val [w0, w1, w2, w3, w4, w5, w6, w7]) := by rw [chn_digs]; simp
    have e2 : chc 0 [w0, w1, w2, w3, w4, w5, w6, w7] = cy 8 (val [w0, w1, w2, w3, w4, w5, w6, w7]) := by rw [chc_cy]; simp
    have H := Lib.hid (And.intro e1 e2); clear e1 e2
    have hm := and_mask
    show Calls Try.prog 38 #[.agg #[.int .i64 w0, .int .i64 w1, .int .i64 w2, .int .i64 w3, .int .i64 w4, .int .i64 w5, .int .i64 w6, .int .i64 w7]] w _
    go_enter Try.func38, Try.ntmps38
    go_wp2
    go_rounds 9
    refine bodyPost_ret (v := ?v1) (by simp [results, Try.results38, go_sem]; rfl) rfl ⟨?_, ?_⟩
    · unfold E8
      rw [← H.out.1, ← H.out.2]
      simp [chn, chc]
    · (refine Ext.of_below ?_; (repeat (first | exact Below.refl _ _ | refine below_drewN' ?_ _ | refine below_ext ?_ (by simp <;> omega) _ | apply Below.drew | refine Below.setCell ?_ (by simp <;> omega) _ | refine Below.alloc ?_ (by simp <;> omega) _)))


theorem lex7 {a0 b0 a1 b1 a2 b2 a3 b3 a4 b4 a5 b5 a6 b6 a7 b7 : Int}  (h7 : (a7 != b7) = true) : lexlt [a0, a1, a2, a3, a4, a5, a6, a7] [b0, b1, b2, b3, b4, b5, b6, b7] = decide (a7 < b7) := by
  have g : a7 ≠ b7 := by simpa using h7
  simp [lexlt, g]
theorem lex6 {a0 b0 a1 b1 a2 b2 a3 b3 a4 b4 a5 b5 a6 b6 a7 b7 : Int} (h7 : (a7 != b7) = false) (h6 : (a6 != b6) = true) : lexlt [a0, a1, a2, a3, a4, a5, a6, a7] [b0, b1, b2, b3, b4, b5, b6, b7] = decide (a6 < b6) := by
  obtain rfl : a7 = b7 := by simpa using h7
  have g : a6 ≠ b6 := by simpa using h6
  simp [lexlt, g]
theorem lex5 {a0 b0 a1 b1 a2 b2 a3 b3 a4 b4 a5 b5 a6 b6 a7 b7 : Int} (h7 : (a7 != b7) = false) (h6 : (a6 != b6) = false) (h5 : (a5 != b5) = true) : lexlt [a0, a1, a2, a3, a4, a5, a6, a7] [b0, b1, b2, b3, b4, b5, b6, b7] = decide (a5 < b5) := by
  obtain rfl : a7 = b7 := by simpa using h7
  obtain rfl : a6 = b6 := by simpa using h6
  have g : a5 ≠ b5 := by simpa using h5
  simp [lexlt, g]
theorem lex4 {a0 b0 a1 b1 a2 b2 a3 b3 a4 b4 a5 b5 a6 b6 a7 b7 : Int} (h7 : (a7 != b7) = false) (h6 : (a6 != b6) = false) (h5 : (a5 != b5) = false) (h4 : (a4 != b4) = true) : lexlt [a0, a1, a2, a3, a4, a5, a6, a7] [b0, b1, b2, b3, b4, b5, b6, b7] = decide (a4 < b4) := by
  obtain rfl : a7 = b7 := by simpa using h7
  obtain rfl : a6 = b6 := by simpa using h6
  obtain rfl : a5 = b5 := by simpa using h5
  have g : a4 ≠ b4 := by simpa using h4
  simp [lexlt, g]
theorem lex3 {a0 b0 a1 b1 a2 b2 a3 b3 a4 b4 a5 b5 a6 b6 a7 b7 : Int} (h7 : (a7 != b7) = false) (h6 : (a6 != b6) = false) (h5 : (a5 != b5) = false) (h4 : (a4 != b4) = false) (h3 : (a3 != b3) = true) : lexlt [a0, a1, a2, a3, a4, a5, a6, a7] [b0, b1, b2, b3, b4, b5, b6, b7] = decide (a3 < b3) := by
  obtain rfl : a7 = b7 := by simpa using h7
  obtain rfl : a6 = b6 := by simpa using h6
  obtain rfl : a5 = b5 := by simpa using h5
  obtain rfl : a4 = b4 := by simpa using h4
  have g : a3 ≠ b3 := by simpa using h3
  simp [lexlt, g]
theorem lex2 {a0 b0 a1 b1 a2 b2 a3 b3 a4 b4 a5 b5 a6 b6 a7 b7 : Int} (h7 : (a7 != b7) = false) (h6 : (a6 != b6) = false) (h5 : (a5 != b5) = false) (h4 : (a4 != b4) = false) (h3 : (a3 != b3) = false) (h2 : (a2 != b2) = true) : lexlt [a0, a1, a2, a3, a4, a5, a6, a7] [b0, b1, b2, b3, b4, b5, b6, b7] = decide (a2 < b2) := by
  obtain rfl : a7 = b7 := by simpa using h7
  obtain rfl : a6 = b6 := by simpa using h6
  obtain rfl : a5 = b5 := by simpa using h5
  obtain rfl : a4 = b4 := by simpa using h4
  obtain rfl : a3 = b3 := by simpa using h3
  have g : a2 ≠ b2 := by simpa using h2
  simp [lexlt, g]
theorem lex1 {a0 b0 a1 b1 a2 b2 a3 b3 a4 b4 a5 b5 a6 b6 a7 b7 : Int} (h7 : (a7 != b7) = false) (h6 : (a6 != b6) = false) (h5 : (a5 != b5) = false) (h4 : (a4 != b4) = false) (h3 : (a3 != b3) = false) (h2 : (a2 != b2) = false) (h1 : (a1 != b1) = true) : lexlt [a0, a1, a2, a3, a4, a5, a6, a7] [b0, b1, b2, b3, b4, b5, b6, b7] = decide (a1 < b1) := by
  obtain rfl : a7 = b7 := by simpa using h7
  obtain rfl : a6 = b6 := by simpa using h6
  obtain rfl : a5 = b5 := by simpa using h5
  obtain rfl : a4 = b4 := by simpa using h4
  obtain rfl : a3 = b3 := by simpa using h3
  obtain rfl : a2 = b2 := by simpa using h2
  have g : a1 ≠ b1 := by simpa using h1
  simp [lexlt, g]
theorem lex0 {a0 b0 a1 b1 a2 b2 a3 b3 a4 b4 a5 b5 a6 b6 a7 b7 : Int} (h7 : (a7 != b7) = false) (h6 : (a6 != b6) = false) (h5 : (a5 != b5) = false) (h4 : (a4 != b4) = false) (h3 : (a3 != b3) = false) (h2 : (a2 != b2) = false) (h1 : (a1 != b1) = false) (_h0 : (a0 != b0) = true) : lexlt [a0, a1, a2, a3, a4, a5, a6, a7] [b0, b1, b2, b3, b4, b5, b6, b7] = decide (a0 < b0) := by
  obtain rfl : a7 = b7 := by simpa using h7
  obtain rfl : a6 = b6 := by simpa using h6
  obtain rfl : a5 = b5 := by simpa using h5
  obtain rfl : a4 = b4 := by simpa using h4
  obtain rfl : a3 = b3 := by simpa using h3
  obtain rfl : a2 = b2 := by simpa using h2
  obtain rfl : a1 = b1 := by simpa using h1
  simp [lexlt]
theorem lexz {a0 b0 a1 b1 a2 b2 a3 b3 a4 b4 a5 b5 a6 b6 a7 b7 : Int} (h7 : (a7 != b7) = false) (h6 : (a6 != b6) = false) (h5 : (a5 != b5) = false) (h4 : (a4 != b4) = false) (h3 : (a3 != b3) = false) (h2 : (a2 != b2) = false) (h1 : (a1 != b1) = false) (h0 : (a0 != b0) = false) : lexlt [a0, a1, a2, a3, a4, a5, a6, a7] [b0, b1, b2, b3, b4, b5, b6, b7] = false := by
  obtain rfl : a7 = b7 := by simpa using h7
  obtain rfl : a6 = b6 := by simpa using h6
  obtain rfl : a5 = b5 := by simpa using h5
  obtain rfl : a4 = b4 := by simpa using h4
  obtain rfl : a3 = b3 := by simpa using h3
  obtain rfl : a2 = b2 := by simpa using h2
  obtain rfl : a1 = b1 := by simpa using h1
  obtain rfl : a0 = b0 := by simpa using h0
  simp [lexlt]

set_option maxHeartbeats 4000000 in
set_option maxRecDepth 100000 in
theorem Below_raw (l m : List Int) (hl : l.length = 8) (hm : m.length = 8) (w : World) :
    Calls Try.prog 10 #[.agg (l.map (Value.int .i64)).toArray, .agg (m.map (Value.int .i64)).toArray] w fun e w' => e = .returned (.bool (lexlt l m)) ∧ Ext w w' := by
  match l, hl, m, hm with
  | [a0, a1, a2, a3, a4, a5, a6, a7], _, [b0, b1, b2, b3, b4, b5, b6, b7], _ =>
    show Calls Try.prog 10 #[.agg #[.int .i64 a0, .int .i64 a1, .int .i64 a2, .int .i64 a3, .int .i64 a4, .int .i64 a5, .int .i64 a6, .int .i64 a7], .agg #[.int .i64 b0, .int .i64 b1, .int .i64 b2, .int .i64 b3, .int .i64 b4, .int .i64 b5, .int .i64 b6, .int .i64 b7]] w _
    go_enter Try.func10, Try.ntmps10
    go_wp2
    refine wp_loop_rounds 9 ?_
    repeat any_goals (rw [rounds_succ]; go_wp2_with (go_quiet (fail)))
    all_goals
      go_ret
      refine ⟨?_, ?_⟩
      · first | exact congrArg (fun b => Ending.returned (Value.bool b)) (lex7 ‹_›).symm | exact congrArg (fun b => Ending.returned (Value.bool b)) (lex6 ‹_› ‹_›).symm | exact congrArg (fun b => Ending.returned (Value.bool b)) (lex5 ‹_› ‹_› ‹_›).symm | exact congrArg (fun b => Ending.returned (Value.bool b)) (lex4 ‹_› ‹_› ‹_› ‹_›).symm | exact congrArg (fun b => Ending.returned (Value.bool b)) (lex3 ‹_› ‹_› ‹_› ‹_› ‹_›).symm | exact congrArg (fun b => Ending.returned (Value.bool b)) (lex2 ‹_› ‹_› ‹_› ‹_› ‹_› ‹_›).symm | exact congrArg (fun b => Ending.returned (Value.bool b)) (lex1 ‹_› ‹_› ‹_› ‹_› ‹_› ‹_› ‹_›).symm | exact congrArg (fun b => Ending.returned (Value.bool b)) (lex0 ‹_› ‹_› ‹_› ‹_› ‹_› ‹_› ‹_› ‹_›).symm | exact congrArg (fun b => Ending.returned (Value.bool b)) (lexz ‹_› ‹_› ‹_› ‹_› ‹_› ‹_› ‹_› ‹_›).symm
      · (refine Ext.of_below ?_; (repeat (first | exact Below.refl _ _ | refine below_drewN' ?_ _ | refine below_ext ?_ (by simp <;> omega) _ | apply Below.drew | refine Below.setCell ?_ (by simp <;> omega) _ | refine Below.alloc ?_ (by simp <;> omega) _)))
theorem Below_any (a b : Int) (ha0 : 0 ≤ a) (ha : a < R256) (hb0 : 0 ≤ b) (hb : b < R256) (w : World) :
    Calls Try.prog 10 #[E8 a, E8 b] w fun e w' => e = .returned (.bool (decide (a < b))) ∧ Ext w w' := by
  have h := Below_raw (digs 8 a) (digs 8 b) (digs_length _ _) (digs_length _ _) w
  rw [lexlt_val _ _ (by simp [digs_length]) (digs_bd _ _) (digs_bd _ _), val_E8 ha0 ha, val_E8 hb0 hb] at h
  exact h

theorem of_word (a b c d : Int) (a0 : 0 ≤ a) (a1 : a < 256) (b0 : 0 ≤ b) (b1 : b < 256) (c0 : 0 ≤ c) (c1 : c < 256) (d0 : 0 ≤ d) (d1 : d < 256) :
    wrap64 (wrap64 (wrap64 (wrap64 (wrap64 (wrap64 a * 16777216)) + wrap64 (wrap64 b * 65536)) + wrap64 (wrap64 c * 256)) + wrap64 (wrap64 d)) = a * 16777216 + b * 65536 + c * 256 + d := by
  unfold wrap64; omega
set_option maxHeartbeats 8000000 in
set_option maxRecDepth 100000 in
theorem Of_any (l : List Int) (hl : l.length = 32) (hb : ∀ x ∈ l, 0 ≤ x ∧ x < 256) (w : World) :
    Calls Try.prog 8 #[.agg (l.map (Value.int .u8)).toArray] w fun e w' => e = .returned (E8 (be l)) ∧ Ext w w' := by
  match l, hl, hb with
  | [b0, b1, b2, b3, b4, b5, b6, b7, b8, b9, b10, b11, b12, b13, b14, b15, b16, b17, b18, b19, b20, b21, b22, b23, b24, b25, b26, b27, b28, b29, b30, b31], _, hb =>
    have hH := Lib.hid hb
    clear hb
    show Calls Try.prog 8 #[.agg #[.int .u8 b0, .int .u8 b1, .int .u8 b2, .int .u8 b3, .int .u8 b4, .int .u8 b5, .int .u8 b6, .int .u8 b7, .int .u8 b8, .int .u8 b9, .int .u8 b10, .int .u8 b11, .int .u8 b12, .int .u8 b13, .int .u8 b14, .int .u8 b15, .int .u8 b16, .int .u8 b17, .int .u8 b18, .int .u8 b19, .int .u8 b20, .int .u8 b21, .int .u8 b22, .int .u8 b23, .int .u8 b24, .int .u8 b25, .int .u8 b26, .int .u8 b27, .int .u8 b28, .int .u8 b29, .int .u8 b30, .int .u8 b31]] w _
    go_enter Try.func8, Try.ntmps8
    go_wp2
    refine wp_loop_rounds 33 ?_
    iterate 33 (rw [rounds_succ]; go_wp2_with (refine wp_quiet_tail 16 (by kernel_rfl) (by kernel_rfl) ?_; simp only [List.take_succ_cons, List.take_zero, List.drop_succ_cons, List.drop_zero]; (repeat (first | go_big_quiet_skip | (go_big_quiet_want; go_big_quiet_op; first | go_big_quiet_on))); refine wpQuiet_nil ?_; intro _ hw'; obtain ⟨nq, hw''⟩ := hw'; subst hw''))
    refine bodyPost_ret (v := ?v3) (by simp [results, Try.results8, go_sem]; rfl) rfl ⟨?_, ?_⟩
    · have hb := hH.out
      obtain ⟨p0, q0⟩ := hb b0 (by simp)
      obtain ⟨p1, q1⟩ := hb b1 (by simp)
      obtain ⟨p2, q2⟩ := hb b2 (by simp)
      obtain ⟨p3, q3⟩ := hb b3 (by simp)
      obtain ⟨p4, q4⟩ := hb b4 (by simp)
      obtain ⟨p5, q5⟩ := hb b5 (by simp)
      obtain ⟨p6, q6⟩ := hb b6 (by simp)
      obtain ⟨p7, q7⟩ := hb b7 (by simp)
      obtain ⟨p8, q8⟩ := hb b8 (by simp)
      obtain ⟨p9, q9⟩ := hb b9 (by simp)
      obtain ⟨p10, q10⟩ := hb b10 (by simp)
      obtain ⟨p11, q11⟩ := hb b11 (by simp)
      obtain ⟨p12, q12⟩ := hb b12 (by simp)
      obtain ⟨p13, q13⟩ := hb b13 (by simp)
      obtain ⟨p14, q14⟩ := hb b14 (by simp)
      obtain ⟨p15, q15⟩ := hb b15 (by simp)
      obtain ⟨p16, q16⟩ := hb b16 (by simp)
      obtain ⟨p17, q17⟩ := hb b17 (by simp)
      obtain ⟨p18, q18⟩ := hb b18 (by simp)
      obtain ⟨p19, q19⟩ := hb b19 (by simp)
      obtain ⟨p20, q20⟩ := hb b20 (by simp)
      obtain ⟨p21, q21⟩ := hb b21 (by simp)
      obtain ⟨p22, q22⟩ := hb b22 (by simp)
      obtain ⟨p23, q23⟩ := hb b23 (by simp)
      obtain ⟨p24, q24⟩ := hb b24 (by simp)
      obtain ⟨p25, q25⟩ := hb b25 (by simp)
      obtain ⟨p26, q26⟩ := hb b26 (by simp)
      obtain ⟨p27, q27⟩ := hb b27 (by simp)
      obtain ⟨p28, q28⟩ := hb b28 (by simp)
      obtain ⟨p29, q29⟩ := hb b29 (by simp)
      obtain ⟨p30, q30⟩ := hb b30 (by simp)
      obtain ⟨p31, q31⟩ := hb b31 (by simp)
      have e : digs 8 (be [b0, b1, b2, b3, b4, b5, b6, b7, b8, b9, b10, b11, b12, b13, b14, b15, b16, b17, b18, b19, b20, b21, b22, b23, b24, b25, b26, b27, b28, b29, b30, b31]) = [b28 * 16777216 + b29 * 65536 + b30 * 256 + b31, b24 * 16777216 + b25 * 65536 + b26 * 256 + b27, b20 * 16777216 + b21 * 65536 + b22 * 256 + b23, b16 * 16777216 + b17 * 65536 + b18 * 256 + b19, b12 * 16777216 + b13 * 65536 + b14 * 256 + b15, b8 * 16777216 + b9 * 65536 + b10 * 256 + b11, b4 * 16777216 + b5 * 65536 + b6 * 256 + b7, b0 * 16777216 + b1 * 65536 + b2 * 256 + b3] := by
        have h1 := digs_val [b28 * 16777216 + b29 * 65536 + b30 * 256 + b31, b24 * 16777216 + b25 * 65536 + b26 * 256 + b27, b20 * 16777216 + b21 * 65536 + b22 * 256 + b23, b16 * 16777216 + b17 * 65536 + b18 * 256 + b19, b12 * 16777216 + b13 * 65536 + b14 * 256 + b15, b8 * 16777216 + b9 * 65536 + b10 * 256 + b11, b4 * 16777216 + b5 * 65536 + b6 * 256 + b7, b0 * 16777216 + b1 * 65536 + b2 * 256 + b3] (by
          intro x hx
          simp only [List.mem_cons, List.not_mem_nil, or_false] at hx
          rcases hx with rfl | rfl | rfl | rfl | rfl | rfl | rfl | rfl <;> omega)
        rw [← h1]
        congr 1
        simp only [be, bal, val, List.reverse_cons, List.reverse_nil, List.nil_append, List.cons_append]
        omega
      unfold E8
      rw [e]
      simp only [of_word _ _ _ _ p0 q0 p1 q1 p2 q2 p3 q3, of_word _ _ _ _ p4 q4 p5 q5 p6 q6 p7 q7, of_word _ _ _ _ p8 q8 p9 q9 p10 q10 p11 q11, of_word _ _ _ _ p12 q12 p13 q13 p14 q14 p15 q15, of_word _ _ _ _ p16 q16 p17 q17 p18 q18 p19 q19, of_word _ _ _ _ p20 q20 p21 q21 p22 q22 p23 q23, of_word _ _ _ _ p24 q24 p25 q25 p26 q26 p27 q27, of_word _ _ _ _ p28 q28 p29 q29 p30 q30 p31 q31]
      rfl
    · (refine Ext.of_below ?_; (repeat (first | exact Below.refl _ _ | refine below_drewN' ?_ _ | refine below_ext ?_ (by simp <;> omega) _ | apply Below.drew | refine Below.setCell ?_ (by simp <;> omega) _ | refine Below.alloc ?_ (by simp <;> omega) _)))
end Go.Proofs.Ytgdjmgcolipcnaa
