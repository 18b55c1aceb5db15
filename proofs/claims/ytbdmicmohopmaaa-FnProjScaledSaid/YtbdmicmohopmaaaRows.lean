/-
  No cell of these rows narrows 'for every input' (looked for: loops, veiled, ifaces, maps, wideKeys, modest, calm, conditions, laid).
  DERIVED. THE GIVEN ROWS OF THIS SEAT. 8 by the template 'for every input the law returns true; each argument reads behind the call as it read before'; 0 by the template 'total and deterministic' (their statements: YtbdmicmohopmaaaTotals.lean).
  GIVEN WITH THE SEED: the statements are not yours to turn. If you find one false, say at which input.
  Laid BY PROGRAM, IN A SANDBOX (cutbox-rows.mjs): the forced cells as the released guide's own fill.sh prints them over the translation 981984bed027ea6c… (all of the seat's roots in one cut). By AI agents, Wed Nov 11 2026. No macro, syntax, notation, axiom, sorry.
-/
import Derived.Test.YtbdmicmohopmaaaChecked
import GoSem.Claim
import GoSem.ClaimJoined
import GoSem.ClaimMapViews
import Derived.JoinedTies
import Derived.KernelRfl
namespace Go.Proofs.Ytbdmicmohopmaaa
/- THE CELL 'sum', in the pinned program and in every row, IS THE sha256 OF THE DUMP (.gsa) THAT YtbdmicmohopmaaaProg.lean LOADS. Nothing in Lean hashes anything: it is a label: what it is worth is what the hold of that sum in a sandbox is worth. -/
noncomputable def Try.pinned : Pinned := { name := "ytbdmicmohopmaaa", sum := "981984bed027ea6cea9400b7434df9a753b056414f7779dba68be55ff97b858b", checked := Try.checked }
namespace Rows
def none {H : Type} : Left H := { results := [], args := [] }

/-- 'laws.FnSquareN': WHATEVER THE INPUT: true; the input reads as it did. -/
def fnSquareNSpec : ChangeSpec := { name := "fnSquareN", fn := fun _ => fun
  | [d1, d2] => { results := [.lit (.bool true)], args := [d1, d2] }
  | _ => none }
def fnSquareNRow : OpenClaim := { program := "ytbdmicmohopmaaa", sum := "981984bed027ea6cea9400b7434df9a753b056414f7779dba68be55ff97b858b", func := "loop.example/pub-g03238/laws.FnSquareN", spec := "fnSquareN", inPlace := ["math/bits.Sub64", "math/bits.Add64"], apart := false }
def FnSquareNSaid : Prop := fnSquareNRow.holds Try.pinned (OpenSpec.ofChange fnSquareNSpec)

/-- ITS FALSE NEIGHBOUR: 'it returns false'. Refute it at one input. -/
def fnSquareNWrong : ChangeSpec := { name := "fnSquareN", fn := fun _ => fun
  | [d1, d2] => { results := [.lit (.bool false)], args := [d1, d2] }
  | _ => none }
def FnSquareNWrongFalsely : Prop := fnSquareNRow.holds Try.pinned (OpenSpec.ofChange fnSquareNWrong)

/-- 'laws.FnProjScaled': WHATEVER THE INPUT: true; the input reads as it did. -/
def fnProjScaledSpec : ChangeSpec := { name := "fnProjScaled", fn := fun _ => fun
  | [d1, d2, d3] => { results := [.lit (.bool true)], args := [d1, d2, d3] }
  | _ => none }
def fnProjScaledRow : OpenClaim := { program := "ytbdmicmohopmaaa", sum := "981984bed027ea6cea9400b7434df9a753b056414f7779dba68be55ff97b858b", func := "loop.example/pub-g03238/laws.FnProjScaled", spec := "fnProjScaled", inPlace := ["math/bits.Sub64", "math/bits.Add64"], apart := false }
def FnProjScaledSaid : Prop := fnProjScaledRow.holds Try.pinned (OpenSpec.ofChange fnProjScaledSpec)

/-- ITS FALSE NEIGHBOUR: 'it returns false'. Refute it at one input. -/
def fnProjScaledWrong : ChangeSpec := { name := "fnProjScaled", fn := fun _ => fun
  | [d1, d2, d3] => { results := [.lit (.bool false)], args := [d1, d2, d3] }
  | _ => none }
def FnProjScaledWrongFalsely : Prop := fnProjScaledRow.holds Try.pinned (OpenSpec.ofChange fnProjScaledWrong)

/-- 'laws.FnProjMixed': WHATEVER THE INPUT: true; the input reads as it did. -/
def fnProjMixedSpec : ChangeSpec := { name := "fnProjMixed", fn := fun _ => fun
  | [d1, d2, d3, d4] => { results := [.lit (.bool true)], args := [d1, d2, d3, d4] }
  | _ => none }
def fnProjMixedRow : OpenClaim := { program := "ytbdmicmohopmaaa", sum := "981984bed027ea6cea9400b7434df9a753b056414f7779dba68be55ff97b858b", func := "loop.example/pub-g03238/laws.FnProjMixed", spec := "fnProjMixed", inPlace := ["math/bits.Sub64", "math/bits.Add64"], apart := false }
def FnProjMixedSaid : Prop := fnProjMixedRow.holds Try.pinned (OpenSpec.ofChange fnProjMixedSpec)

/-- ITS FALSE NEIGHBOUR: 'it returns false'. Refute it at one input. -/
def fnProjMixedWrong : ChangeSpec := { name := "fnProjMixed", fn := fun _ => fun
  | [d1, d2, d3, d4] => { results := [.lit (.bool false)], args := [d1, d2, d3, d4] }
  | _ => none }
def FnProjMixedWrongFalsely : Prop := fnProjMixedRow.holds Try.pinned (OpenSpec.ofChange fnProjMixedWrong)

/-- 'laws.FnPolynomial': WHATEVER THE INPUT: true; the input reads as it did. -/
def fnPolynomialSpec : ChangeSpec := { name := "fnPolynomial", fn := fun _ => fun
  | [d] => { results := [.lit (.bool true)], args := [d] }
  | _ => none }
def fnPolynomialRow : OpenClaim := { program := "ytbdmicmohopmaaa", sum := "981984bed027ea6cea9400b7434df9a753b056414f7779dba68be55ff97b858b", func := "loop.example/pub-g03238/laws.FnPolynomial", spec := "fnPolynomial", inPlace := ["math/bits.Sub64", "math/bits.Add64"], apart := false }
def FnPolynomialSaid : Prop := fnPolynomialRow.holds Try.pinned (OpenSpec.ofChange fnPolynomialSpec)

/-- ITS FALSE NEIGHBOUR: 'it returns false'. Refute it at one input. -/
def fnPolynomialWrong : ChangeSpec := { name := "fnPolynomial", fn := fun _ => fun
  | [d] => { results := [.lit (.bool false)], args := [d] }
  | _ => none }
def FnPolynomialWrongFalsely : Prop := fnPolynomialRow.holds Try.pinned (OpenSpec.ofChange fnPolynomialWrong)

/-- 'laws.FnSqrt': WHATEVER THE INPUT: true; the input reads as it did. -/
def fnSqrtSpec : ChangeSpec := { name := "fnSqrt", fn := fun _ => fun
  | [d] => { results := [.lit (.bool true)], args := [d] }
  | _ => none }
def fnSqrtRow : OpenClaim := { program := "ytbdmicmohopmaaa", sum := "981984bed027ea6cea9400b7434df9a753b056414f7779dba68be55ff97b858b", func := "loop.example/pub-g03238/laws.FnSqrt", spec := "fnSqrt", inPlace := ["math/bits.Sub64", "math/bits.Add64"], apart := false }
def FnSqrtSaid : Prop := fnSqrtRow.holds Try.pinned (OpenSpec.ofChange fnSqrtSpec)

/-- ITS FALSE NEIGHBOUR: 'it returns false'. Refute it at one input. -/
def fnSqrtWrong : ChangeSpec := { name := "fnSqrt", fn := fun _ => fun
  | [d] => { results := [.lit (.bool false)], args := [d] }
  | _ => none }
def FnSqrtWrongFalsely : Prop := fnSqrtRow.holds Try.pinned (OpenSpec.ofChange fnSqrtWrong)

/-- 'laws.FnCoordinates': WHATEVER THE INPUT: true; the input reads as it did. -/
def fnCoordinatesSpec : ChangeSpec := { name := "fnCoordinates", fn := fun _ => fun
  | [d1, d2] => { results := [.lit (.bool true)], args := [d1, d2] }
  | _ => none }
def fnCoordinatesRow : OpenClaim := { program := "ytbdmicmohopmaaa", sum := "981984bed027ea6cea9400b7434df9a753b056414f7779dba68be55ff97b858b", func := "loop.example/pub-g03238/laws.FnCoordinates", spec := "fnCoordinates", inPlace := ["math/bits.Sub64", "math/bits.Add64"], apart := false }
def FnCoordinatesSaid : Prop := fnCoordinatesRow.holds Try.pinned (OpenSpec.ofChange fnCoordinatesSpec)

/-- ITS FALSE NEIGHBOUR: 'it returns false'. Refute it at one input. -/
def fnCoordinatesWrong : ChangeSpec := { name := "fnCoordinates", fn := fun _ => fun
  | [d1, d2] => { results := [.lit (.bool false)], args := [d1, d2] }
  | _ => none }
def FnCoordinatesWrongFalsely : Prop := fnCoordinatesRow.holds Try.pinned (OpenSpec.ofChange fnCoordinatesWrong)

/-- 'laws.FnProjDouble': WHATEVER THE INPUT: true; the input reads as it did. -/
def fnProjDoubleSpec : ChangeSpec := { name := "fnProjDouble", fn := fun _ => fun
  | [d] => { results := [.lit (.bool true)], args := [d] }
  | _ => none }
def fnProjDoubleRow : OpenClaim := { program := "ytbdmicmohopmaaa", sum := "981984bed027ea6cea9400b7434df9a753b056414f7779dba68be55ff97b858b", func := "loop.example/pub-g03238/laws.FnProjDouble", spec := "fnProjDouble", inPlace := ["math/bits.Sub64", "math/bits.Add64"], apart := false }
def FnProjDoubleSaid : Prop := fnProjDoubleRow.holds Try.pinned (OpenSpec.ofChange fnProjDoubleSpec)

/-- ITS FALSE NEIGHBOUR: 'it returns false'. Refute it at one input. -/
def fnProjDoubleWrong : ChangeSpec := { name := "fnProjDouble", fn := fun _ => fun
  | [d] => { results := [.lit (.bool false)], args := [d] }
  | _ => none }
def FnProjDoubleWrongFalsely : Prop := fnProjDoubleRow.holds Try.pinned (OpenSpec.ofChange fnProjDoubleWrong)

/-- 'laws.FnProjTable': WHATEVER THE INPUT: true; the input reads as it did. -/
def fnProjTableSpec : ChangeSpec := { name := "fnProjTable", fn := fun _ => fun
  | [d1, d2] => { results := [.lit (.bool true)], args := [d1, d2] }
  | _ => none }
def fnProjTableRow : OpenClaim := { program := "ytbdmicmohopmaaa", sum := "981984bed027ea6cea9400b7434df9a753b056414f7779dba68be55ff97b858b", func := "loop.example/pub-g03238/laws.FnProjTable", spec := "fnProjTable", inPlace := ["math/bits.Sub64", "math/bits.Add64"], apart := false }
def FnProjTableSaid : Prop := fnProjTableRow.holds Try.pinned (OpenSpec.ofChange fnProjTableSpec)

/-- ITS FALSE NEIGHBOUR: 'it returns false'. Refute it at one input. -/
def fnProjTableWrong : ChangeSpec := { name := "fnProjTable", fn := fun _ => fun
  | [d1, d2] => { results := [.lit (.bool false)], args := [d1, d2] }
  | _ => none }
def FnProjTableWrongFalsely : Prop := fnProjTableRow.holds Try.pinned (OpenSpec.ofChange fnProjTableWrong)

/- THE SECOND FORM. 'bulk': how many values and letters a reading holds, each counted each time it is reached (what is shared counts as often as it is met; a slice's spare places count too). A statement '..UptoSaid' is the law's where the arguments, and the package variables that the reading takes, are together of bulk at most 1048576: NARROWER than '..Said'. Prove '..Said' where nothing that the law and all that it calls make is longer than what came in: it says more and counts as full. Else prove '..UptoSaid'. A law counts once. -/
mutual
def uptoBulk {H : Type} : DataW H → Nat
  | .lit (.string bytes) => bytes.length + 1
  | .lit _ => 1
  | .nil => 1
  | .ptr d => uptoBulk d + 1
  | .slice elems spare => uptoBulkAll elems + uptoBulkAll spare + 1
  | .agg parts => uptoBulkAll parts + 1
  | .iface _ d => uptoBulk d + 1
  | .map entries => uptoBulkEntries entries + 1
  | .held _ => 1
def uptoBulkAll {H : Type} : List (DataW H) → Nat
  | [] => 0
  | d :: r => uptoBulk d + uptoBulkAll r
def uptoBulkEntries {H : Type} : List (Lit × DataW H) → Nat
  | [] => 0
  | x :: r => uptoBulkEntry x + uptoBulkEntries r
def uptoBulkEntry {H : Type} : Lit × DataW H → Nat
  | (.string bytes, d) => bytes.length + uptoBulk d + 1
  | (_, d) => uptoBulk d + 1
 end
def uptoSmall : (H : Type) → List (DataW H) → Bool := fun _ ds => decide (uptoBulkAll ds ≤ 1048576)
def OpenSpec.upto (s : _root_.Go.ChangeSpec) : _root_.Go.OpenSpec := { _root_.Go.OpenSpec.ofChange s with cond := some uptoSmall }

/-- 'laws.FnSquareN', WHERE WHAT IT READS IS OF BULK AT MOST 1048576: true; the input reads as it did. -/
def fnSquareNUptoRow : OpenClaim := { program := "ytbdmicmohopmaaa", sum := "981984bed027ea6cea9400b7434df9a753b056414f7779dba68be55ff97b858b", func := "loop.example/pub-g03238/laws.FnSquareN", spec := "fnSquareN", inPlace := ["math/bits.Sub64", "math/bits.Add64"], apart := false, narrowed := true }
def FnSquareNUptoSaid : Prop := fnSquareNUptoRow.holds Try.pinned (OpenSpec.upto fnSquareNSpec)

/-- 'laws.FnProjScaled', WHERE WHAT IT READS IS OF BULK AT MOST 1048576: true; the input reads as it did. -/
def fnProjScaledUptoRow : OpenClaim := { program := "ytbdmicmohopmaaa", sum := "981984bed027ea6cea9400b7434df9a753b056414f7779dba68be55ff97b858b", func := "loop.example/pub-g03238/laws.FnProjScaled", spec := "fnProjScaled", inPlace := ["math/bits.Sub64", "math/bits.Add64"], apart := false, narrowed := true }
def FnProjScaledUptoSaid : Prop := fnProjScaledUptoRow.holds Try.pinned (OpenSpec.upto fnProjScaledSpec)

/-- 'laws.FnProjMixed', WHERE WHAT IT READS IS OF BULK AT MOST 1048576: true; the input reads as it did. -/
def fnProjMixedUptoRow : OpenClaim := { program := "ytbdmicmohopmaaa", sum := "981984bed027ea6cea9400b7434df9a753b056414f7779dba68be55ff97b858b", func := "loop.example/pub-g03238/laws.FnProjMixed", spec := "fnProjMixed", inPlace := ["math/bits.Sub64", "math/bits.Add64"], apart := false, narrowed := true }
def FnProjMixedUptoSaid : Prop := fnProjMixedUptoRow.holds Try.pinned (OpenSpec.upto fnProjMixedSpec)

/-- 'laws.FnPolynomial', WHERE WHAT IT READS IS OF BULK AT MOST 1048576: true; the input reads as it did. -/
def fnPolynomialUptoRow : OpenClaim := { program := "ytbdmicmohopmaaa", sum := "981984bed027ea6cea9400b7434df9a753b056414f7779dba68be55ff97b858b", func := "loop.example/pub-g03238/laws.FnPolynomial", spec := "fnPolynomial", inPlace := ["math/bits.Sub64", "math/bits.Add64"], apart := false, narrowed := true }
def FnPolynomialUptoSaid : Prop := fnPolynomialUptoRow.holds Try.pinned (OpenSpec.upto fnPolynomialSpec)

/-- 'laws.FnSqrt', WHERE WHAT IT READS IS OF BULK AT MOST 1048576: true; the input reads as it did. -/
def fnSqrtUptoRow : OpenClaim := { program := "ytbdmicmohopmaaa", sum := "981984bed027ea6cea9400b7434df9a753b056414f7779dba68be55ff97b858b", func := "loop.example/pub-g03238/laws.FnSqrt", spec := "fnSqrt", inPlace := ["math/bits.Sub64", "math/bits.Add64"], apart := false, narrowed := true }
def FnSqrtUptoSaid : Prop := fnSqrtUptoRow.holds Try.pinned (OpenSpec.upto fnSqrtSpec)

/-- 'laws.FnCoordinates', WHERE WHAT IT READS IS OF BULK AT MOST 1048576: true; the input reads as it did. -/
def fnCoordinatesUptoRow : OpenClaim := { program := "ytbdmicmohopmaaa", sum := "981984bed027ea6cea9400b7434df9a753b056414f7779dba68be55ff97b858b", func := "loop.example/pub-g03238/laws.FnCoordinates", spec := "fnCoordinates", inPlace := ["math/bits.Sub64", "math/bits.Add64"], apart := false, narrowed := true }
def FnCoordinatesUptoSaid : Prop := fnCoordinatesUptoRow.holds Try.pinned (OpenSpec.upto fnCoordinatesSpec)

/-- 'laws.FnProjDouble', WHERE WHAT IT READS IS OF BULK AT MOST 1048576: true; the input reads as it did. -/
def fnProjDoubleUptoRow : OpenClaim := { program := "ytbdmicmohopmaaa", sum := "981984bed027ea6cea9400b7434df9a753b056414f7779dba68be55ff97b858b", func := "loop.example/pub-g03238/laws.FnProjDouble", spec := "fnProjDouble", inPlace := ["math/bits.Sub64", "math/bits.Add64"], apart := false, narrowed := true }
def FnProjDoubleUptoSaid : Prop := fnProjDoubleUptoRow.holds Try.pinned (OpenSpec.upto fnProjDoubleSpec)

/-- 'laws.FnProjTable', WHERE WHAT IT READS IS OF BULK AT MOST 1048576: true; the input reads as it did. -/
def fnProjTableUptoRow : OpenClaim := { program := "ytbdmicmohopmaaa", sum := "981984bed027ea6cea9400b7434df9a753b056414f7779dba68be55ff97b858b", func := "loop.example/pub-g03238/laws.FnProjTable", spec := "fnProjTable", inPlace := ["math/bits.Sub64", "math/bits.Add64"], apart := false, narrowed := true }
def FnProjTableUptoSaid : Prop := fnProjTableUptoRow.holds Try.pinned (OpenSpec.upto fnProjTableSpec)

end Rows
end Go.Proofs.Ytbdmicmohopmaaa
