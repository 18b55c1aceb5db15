/-
  What is proved here: what the reference's small constants return.
  Conditions: those of each theorem.
-/
import Derived.Test.YtnjjelepcnofjaaProg
import Derived.Test.YtnjjelepcnofjaaSpecP
import Derived.WalkKit
import Derived.WalkSpells
import Derived.Outline
import Derived.Handy
import Derived.ProofKit
import Derived.Deep.QuietTactic
import Derived.BigQuiet
import Derived.Lib.Hide
import Derived.OpenShut
namespace Go.Proofs.Ytnjjelepcnofjaa
open Go Go.RowKit Ecp
set_option linter.unusedSimpArgs false
set_option linter.unusedVariables false

theorem Fv_cB : Fv cB = .agg #[.int .i64 668098635, .int .i64 1003371582, .int .i64 3428036854, .int .i64 1696401072, .int .i64 1989707452, .int .i64 3018571093, .int .i64 2855965671, .int .i64 1522939352] := by rfl
theorem B_any (w : World) : Calls Try.prog 37 #[] w fun e w' => e = .returned (Fv cB) ∧ Ext w w' := by
  rw [Fv_cB]
  go_enter Try.func37, Try.ntmps37
  go_wp2
  refine bodyPost_ret (v := ?v2) (by simp [results, Try.results37, go_sem]; rfl) rfl ⟨?_, ?_⟩
  · rfl
  · (refine Ext.of_below ?_; (repeat (first | exact Below.refl _ _ | refine below_drewN' ?_ _ | refine below_ext ?_ (by simp <;> omega) _ | apply Below.drew | refine Below.setCell ?_ (by simp <;> omega) _ | refine Below.alloc ?_ (by simp <;> omega) _)))
theorem Small_any (n : Int) (w : World) : Calls Try.prog 15 #[.int .i64 n] w fun e w' => e = .returned (.agg #[.int .i64 n, .int .i64 0, .int .i64 0, .int .i64 0, .int .i64 0, .int .i64 0, .int .i64 0, .int .i64 0]) ∧ Ext w w' := by
  go_enter Try.func15, Try.ntmps15
  go_wp2
  refine bodyPost_ret (v := ?v2) (by simp [results, Try.results15, go_sem]; rfl) rfl ⟨?_, ?_⟩
  · rfl
  · (refine Ext.of_below ?_; (repeat (first | exact Below.refl _ _ | refine below_drewN' ?_ _ | refine below_ext ?_ (by simp <;> omega) _ | apply Below.drew | refine Below.setCell ?_ (by simp <;> omega) _ | refine Below.alloc ?_ (by simp <;> omega) _)))
end Go.Proofs.Ytnjjelepcnofjaa
