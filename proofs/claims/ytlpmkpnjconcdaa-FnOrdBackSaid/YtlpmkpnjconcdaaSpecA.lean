/-
  What is proved here: what the reference's small functions (words of 32 bits) return.
  Conditions: those of each theorem.
-/
import Derived.Test.YtlpmkpnjconcdaaRows
import Derived.Test.YtlpmkpnjconcdaaKit
import Derived.Test.YtlpmkpnjconcdaaNum
import Derived.Test.YtlpmkpnjconcdaaReg
import Derived.WalkKit
import Derived.WalkSpells
import Derived.Outline
import Derived.Handy
import Derived.ProofKit
import Derived.Deep.QuietTactic
import Derived.BigQuiet
import Derived.Lib.Hide
namespace Go.Proofs.Ytlpmkpnjconcdaa
open Go.RowKit
set_option linter.unusedSimpArgs false
set_option linter.unusedVariables false

set_option maxHeartbeats 1000000 in
set_option maxRecDepth 100000 in
theorem carried_any (l : List Int) (hl : l.length = 8) (hb : ∀ x ∈ l, -1152921504606846976 ≤ x ∧ x ≤ 1152921504606846976) (w : World) :
    Calls Try.prog 19 #[.agg (l.map (Value.int .i64)).toArray] w fun e w' => e = .returned (.tuple #[E8 (val l), .int .i64 (cy 8 (val l))]) ∧ Ext w w' := by
  match l, hl, hb with
  | [w0, w1, w2, w3, w4, w5, w6, w7], _, hb =>
    obtain ⟨a0, b0⟩ := hb w0 (by simp)
    obtain ⟨a1, b1⟩ := hb w1 (by simp)
    obtain ⟨a2, b2⟩ := hb w2 (by simp)
    obtain ⟨a3, b3⟩ := hb w3 (by simp)
    obtain ⟨a4, b4⟩ := hb w4 (by simp)
    obtain ⟨a5, b5⟩ := hb w5 (by simp)
    obtain ⟨a6, b6⟩ := hb w6 (by simp)
    obtain ⟨a7, b7⟩ := hb w7 (by simp)
    clear hb
    have e1 : chn 0 [w0, w1, w2, w3, w4, w5, w6, w7] = digs 8 (val [w0, w1, w2, w3, w4, w5, w6, w7]) := by rw [chn_digs]; simp
    have e2 : chc 0 [w0, w1, w2, w3, w4, w5, w6, w7] = cy 8 (val [w0, w1, w2, w3, w4, w5, w6, w7]) := by rw [chc_cy]; simp
    have H := Lib.hid (And.intro e1 e2); clear e1 e2
    have hm := and_mask
    show Calls Try.prog 19 #[.agg #[.int .i64 w0, .int .i64 w1, .int .i64 w2, .int .i64 w3, .int .i64 w4, .int .i64 w5, .int .i64 w6, .int .i64 w7]] w _
    go_enter Try.func19, Try.ntmps19
    go_wp2
    go_rounds 9
    refine bodyPost_ret (v := ?v1) (by simp [results, Try.results19, go_sem]; rfl) rfl ⟨?_, ?_⟩
    · unfold E8
      rw [← H.out.1, ← H.out.2]
      simp [chn, chc]
    · (refine Ext.of_below ?_; (repeat (first | exact Below.refl _ _ | refine below_drewN' ?_ _ | refine below_ext ?_ (by simp <;> omega) _ | apply Below.drew | refine Below.setCell ?_ (by simp <;> omega) _ | refine Below.alloc ?_ (by simp <;> omega) _)))

theorem Order_any (w : World) : Calls Try.prog 13 #[] w fun e w' => e = .returned (E8 ordN) ∧ Ext w w' := by
  go_enter Try.func13, Try.ntmps13
  go_wp2
  refine bodyPost_ret (v := ?v2) (by simp [results, Try.results13, go_sem]; rfl) rfl ⟨?_, ?_⟩
  · rfl
  · (refine Ext.of_below ?_; (repeat (first | exact Below.refl _ _ | refine below_drewN' ?_ _ | refine below_ext ?_ (by simp <;> omega) _ | apply Below.drew | refine Below.setCell ?_ (by simp <;> omega) _ | refine Below.alloc ?_ (by simp <;> omega) _)))

theorem lex7 {a0 b0 a1 b1 a2 b2 a3 b3 a4 b4 a5 b5 a6 b6 a7 b7 : Int}  (h7 : (a7 != b7) = true) : lexlt [a0, a1, a2, a3, a4, a5, a6, a7] [b0, b1, b2, b3, b4, b5, b6, b7] = decide (a7 < b7) := by
  have g : a7 ≠ b7 := by simpa using h7
  simp [lexlt, g]
theorem lex6 {a0 b0 a1 b1 a2 b2 a3 b3 a4 b4 a5 b5 a6 b6 a7 b7 : Int} (h7 : (a7 != b7) = false) (h6 : (a6 != b6) = true) : lexlt [a0, a1, a2, a3, a4, a5, a6, a7] [b0, b1, b2, b3, b4, b5, b6, b7] = decide (a6 < b6) := by
  obtain rfl : a7 = b7 := by simpa using h7
  have g : a6 ≠ b6 := by simpa using h6
  simp [lexlt, g]
theorem lex5 {a0 b0 a1 b1 a2 b2 a3 b3 a4 b4 a5 b5 a6 b6 a7 b7 : Int} (h7 : (a7 != b7) = false) (h6 : (a6 != b6) = false) (h5 : (a5 != b5) = true) : lexlt [a0, a1, a2, a3, a4, a5, a6, a7] [b0, b1, b2, b3, b4, b5, b6, b7] = decide (a5 < b5) := by
  obtain rfl : a7 = b7 := by simpa using h7
  obtain rfl : a6 = b6 := by simpa using h6
  have g : a5 ≠ b5 := by simpa using h5
  simp [lexlt, g]
theorem lex4 {a0 b0 a1 b1 a2 b2 a3 b3 a4 b4 a5 b5 a6 b6 a7 b7 : Int} (h7 : (a7 != b7) = false) (h6 : (a6 != b6) = false) (h5 : (a5 != b5) = false) (h4 : (a4 != b4) = true) : lexlt [a0, a1, a2, a3, a4, a5, a6, a7] [b0, b1, b2, b3, b4, b5, b6, b7] = decide (a4 < b4) := by
  obtain rfl : a7 = b7 := by simpa using h7
  obtain rfl : a6 = b6 := by simpa using h6
  obtain rfl : a5 = b5 := by simpa using h5
  have g : a4 ≠ b4 := by simpa using h4
  simp [lexlt, g]
theorem lex3 {a0 b0 a1 b1 a2 b2 a3 b3 a4 b4 a5 b5 a6 b6 a7 b7 : Int} (h7 : (a7 != b7) = false) (h6 : (a6 != b6) = false) (h5 : (a5 != b5) = false) (h4 : (a4 != b4) = false) (h3 : (a3 != b3) = true) : lexlt [a0, a1, a2, a3, a4, a5, a6, a7] [b0, b1, b2, b3, b4, b5, b6, b7] = decide (a3 < b3) := by
  obtain rfl : a7 = b7 := by simpa using h7
  obtain rfl : a6 = b6 := by simpa using h6
  obtain rfl : a5 = b5 := by simpa using h5
  obtain rfl : a4 = b4 := by simpa using h4
  have g : a3 ≠ b3 := by simpa using h3
  simp [lexlt, g]
theorem lex2 {a0 b0 a1 b1 a2 b2 a3 b3 a4 b4 a5 b5 a6 b6 a7 b7 : Int} (h7 : (a7 != b7) = false) (h6 : (a6 != b6) = false) (h5 : (a5 != b5) = false) (h4 : (a4 != b4) = false) (h3 : (a3 != b3) = false) (h2 : (a2 != b2) = true) : lexlt [a0, a1, a2, a3, a4, a5, a6, a7] [b0, b1, b2, b3, b4, b5, b6, b7] = decide (a2 < b2) := by
  obtain rfl : a7 = b7 := by simpa using h7
  obtain rfl : a6 = b6 := by simpa using h6
  obtain rfl : a5 = b5 := by simpa using h5
  obtain rfl : a4 = b4 := by simpa using h4
  obtain rfl : a3 = b3 := by simpa using h3
  have g : a2 ≠ b2 := by simpa using h2
  simp [lexlt, g]
theorem lex1 {a0 b0 a1 b1 a2 b2 a3 b3 a4 b4 a5 b5 a6 b6 a7 b7 : Int} (h7 : (a7 != b7) = false) (h6 : (a6 != b6) = false) (h5 : (a5 != b5) = false) (h4 : (a4 != b4) = false) (h3 : (a3 != b3) = false) (h2 : (a2 != b2) = false) (h1 : (a1 != b1) = true) : lexlt [a0, a1, a2, a3, a4, a5, a6, a7] [b0, b1, b2, b3, b4, b5, b6, b7] = decide (a1 < b1) := by
  obtain rfl : a7 = b7 := by simpa using h7
  obtain rfl : a6 = b6 := by simpa using h6
  obtain rfl : a5 = b5 := by simpa using h5
  obtain rfl : a4 = b4 := by simpa using h4
  obtain rfl : a3 = b3 := by simpa using h3
  obtain rfl : a2 = b2 := by simpa using h2
  have g : a1 ≠ b1 := by simpa using h1
  simp [lexlt, g]
theorem lex0 {a0 b0 a1 b1 a2 b2 a3 b3 a4 b4 a5 b5 a6 b6 a7 b7 : Int} (h7 : (a7 != b7) = false) (h6 : (a6 != b6) = false) (h5 : (a5 != b5) = false) (h4 : (a4 != b4) = false) (h3 : (a3 != b3) = false) (h2 : (a2 != b2) = false) (h1 : (a1 != b1) = false) (_h0 : (a0 != b0) = true) : lexlt [a0, a1, a2, a3, a4, a5, a6, a7] [b0, b1, b2, b3, b4, b5, b6, b7] = decide (a0 < b0) := by
  obtain rfl : a7 = b7 := by simpa using h7
  obtain rfl : a6 = b6 := by simpa using h6
  obtain rfl : a5 = b5 := by simpa using h5
  obtain rfl : a4 = b4 := by simpa using h4
  obtain rfl : a3 = b3 := by simpa using h3
  obtain rfl : a2 = b2 := by simpa using h2
  obtain rfl : a1 = b1 := by simpa using h1
  simp [lexlt]
theorem lexz {a0 b0 a1 b1 a2 b2 a3 b3 a4 b4 a5 b5 a6 b6 a7 b7 : Int} (h7 : (a7 != b7) = false) (h6 : (a6 != b6) = false) (h5 : (a5 != b5) = false) (h4 : (a4 != b4) = false) (h3 : (a3 != b3) = false) (h2 : (a2 != b2) = false) (h1 : (a1 != b1) = false) (h0 : (a0 != b0) = false) : lexlt [a0, a1, a2, a3, a4, a5, a6, a7] [b0, b1, b2, b3, b4, b5, b6, b7] = false := by
  obtain rfl : a7 = b7 := by simpa using h7
  obtain rfl : a6 = b6 := by simpa using h6
  obtain rfl : a5 = b5 := by simpa using h5
  obtain rfl : a4 = b4 := by simpa using h4
  obtain rfl : a3 = b3 := by simpa using h3
  obtain rfl : a2 = b2 := by simpa using h2
  obtain rfl : a1 = b1 := by simpa using h1
  obtain rfl : a0 = b0 := by simpa using h0
  simp [lexlt]

set_option maxHeartbeats 4000000 in
set_option maxRecDepth 100000 in
theorem Below_raw (l m : List Int) (hl : l.length = 8) (hm : m.length = 8) (w : World) :
    Calls Try.prog 12 #[.agg (l.map (Value.int .i64)).toArray, .agg (m.map (Value.int .i64)).toArray] w fun e w' => e = .returned (.bool (lexlt l m)) ∧ Ext w w' := by
  match l, hl, m, hm with
  | [a0, a1, a2, a3, a4, a5, a6, a7], _, [b0, b1, b2, b3, b4, b5, b6, b7], _ =>
    show Calls Try.prog 12 #[.agg #[.int .i64 a0, .int .i64 a1, .int .i64 a2, .int .i64 a3, .int .i64 a4, .int .i64 a5, .int .i64 a6, .int .i64 a7], .agg #[.int .i64 b0, .int .i64 b1, .int .i64 b2, .int .i64 b3, .int .i64 b4, .int .i64 b5, .int .i64 b6, .int .i64 b7]] w _
    go_enter Try.func12, Try.ntmps12
    go_wp2
    refine wp_loop_rounds 9 ?_
    repeat any_goals (rw [rounds_succ]; go_wp2_with (go_quiet (fail)))
    all_goals
      go_ret
      refine ⟨?_, ?_⟩
      · first | exact congrArg (fun b => Ending.returned (Value.bool b)) (lex7 ‹_›).symm | exact congrArg (fun b => Ending.returned (Value.bool b)) (lex6 ‹_› ‹_›).symm | exact congrArg (fun b => Ending.returned (Value.bool b)) (lex5 ‹_› ‹_› ‹_›).symm | exact congrArg (fun b => Ending.returned (Value.bool b)) (lex4 ‹_› ‹_› ‹_› ‹_›).symm | exact congrArg (fun b => Ending.returned (Value.bool b)) (lex3 ‹_› ‹_› ‹_› ‹_› ‹_›).symm | exact congrArg (fun b => Ending.returned (Value.bool b)) (lex2 ‹_› ‹_› ‹_› ‹_› ‹_› ‹_›).symm | exact congrArg (fun b => Ending.returned (Value.bool b)) (lex1 ‹_› ‹_› ‹_› ‹_› ‹_› ‹_› ‹_›).symm | exact congrArg (fun b => Ending.returned (Value.bool b)) (lex0 ‹_› ‹_› ‹_› ‹_› ‹_› ‹_› ‹_› ‹_›).symm | exact congrArg (fun b => Ending.returned (Value.bool b)) (lexz ‹_› ‹_› ‹_› ‹_› ‹_› ‹_› ‹_› ‹_›).symm
      · (refine Ext.of_below ?_; (repeat (first | exact Below.refl _ _ | refine below_drewN' ?_ _ | refine below_ext ?_ (by simp <;> omega) _ | apply Below.drew | refine Below.setCell ?_ (by simp <;> omega) _ | refine Below.alloc ?_ (by simp <;> omega) _)))
theorem Below_any (a b : Int) (ha0 : 0 ≤ a) (ha : a < R256) (hb0 : 0 ≤ b) (hb : b < R256) (w : World) :
    Calls Try.prog 12 #[E8 a, E8 b] w fun e w' => e = .returned (.bool (decide (a < b))) ∧ Ext w w' := by
  have h := Below_raw (digs 8 a) (digs 8 b) (digs_length _ _) (digs_length _ _) w
  rw [lexlt_val _ _ (by simp [digs_length]) (digs_bd _ _) (digs_bd _ _), val_E8 ha0 ha, val_E8 hb0 hb] at h
  exact h

end Go.Proofs.Ytlpmkpnjconcdaa
