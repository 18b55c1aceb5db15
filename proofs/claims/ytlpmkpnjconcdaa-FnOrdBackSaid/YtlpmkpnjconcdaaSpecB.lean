/-
  What is proved here: what the reference's functions modulo the order return, and how it turns numbers into words and bytes.
  Conditions: those of each theorem.
-/
import Derived.Test.YtlpmkpnjconcdaaRows
import Derived.Test.YtlpmkpnjconcdaaKit
import Derived.Test.YtlpmkpnjconcdaaNum
import Derived.Test.YtlpmkpnjconcdaaReg
import Derived.Test.YtlpmkpnjconcdaaSpecA
import Derived.WalkKit
import Derived.WalkSpells
import Derived.Outline
import Derived.Handy
import Derived.ProofKit
import Derived.Deep.QuietTactic
import Derived.BigQuiet
import Derived.Lib.Hide
namespace Go.Proofs.Ytlpmkpnjconcdaa
open Go.RowKit
set_option linter.unusedSimpArgs false
set_option linter.unusedVariables false

theorem E8_ordN : E8 ordN = .agg #[.int .i64 4234356049, .int .i64 4089039554, .int .i64 2803342980, .int .i64 3169254061, .int .i64 4294967295, .int .i64 4294967295, .int .i64 0, .int .i64 4294967295] := by rfl
theorem digs_ordN : digs 8 ordN = [4234356049, 4089039554, 2803342980, 3169254061, 4294967295, 4294967295, 0, 4294967295] := by rfl

theorem Order_lit (w : World) : Calls Try.prog 13 #[] w fun e w' => e = .returned (.agg #[.int .i64 4234356049, .int .i64 4089039554, .int .i64 2803342980, .int .i64 3169254061, .int .i64 4294967295, .int .i64 4294967295, .int .i64 0, .int .i64 4294967295]) ∧ Ext w w' := by
  have h := Order_any w
  rw [E8_ordN] at h
  exact h



end Go.Proofs.Ytlpmkpnjconcdaa
