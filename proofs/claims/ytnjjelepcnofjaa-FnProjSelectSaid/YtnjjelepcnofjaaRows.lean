/-
  No cell of these rows narrows 'for every input' (looked for: loops, veiled, ifaces, maps, wideKeys, modest, calm, conditions, laid).
  DERIVED. THE GIVEN ROWS OF THIS SEAT. 3 by the template 'for every input the law returns true; each argument reads behind the call as it read before'; 0 by the template 'total and deterministic' (their statements: YtnjjelepcnofjaaTotals.lean).
  GIVEN WITH THE SEED: the statements are not yours to turn. If you find one false, say at which input.
  Laid BY PROGRAM, IN A SANDBOX (cutbox-rows.mjs): the forced cells as the released guide's own fill.sh prints them over the translation 9914add3696f8a82… (all of the seat's roots in one cut). By AI agents, Wed Nov 11 2026. No macro, syntax, notation, axiom, sorry.
-/
import Derived.Test.YtnjjelepcnofjaaChecked
import GoSem.Claim
import GoSem.ClaimJoined
import GoSem.ClaimMapViews
import Derived.JoinedTies
import Derived.KernelRfl
namespace Go.Proofs.Ytnjjelepcnofjaa
/- THE CELL 'sum', in the pinned program and in every row, IS THE sha256 OF THE DUMP (.gsa) THAT YtnjjelepcnofjaaProg.lean LOADS. Nothing in Lean hashes anything: it is a label: what it is worth is what the hold of that sum in a sandbox is worth. -/
noncomputable def Try.pinned : Pinned := { name := "ytnjjelepcnofjaa", sum := "9914add3696f8a82c02ecdf41ed33da7517a514f5fab93e05b04954ef32ea4d9", checked := Try.checked }
namespace Rows
def none {H : Type} : Left H := { results := [], args := [] }

/-- 'laws.FnProjKept': WHATEVER THE INPUT: true; the input reads as it did. -/
def fnProjKeptSpec : ChangeSpec := { name := "fnProjKept", fn := fun _ => fun
  | [d] => { results := [.lit (.bool true)], args := [d] }
  | _ => none }
def fnProjKeptRow : OpenClaim := { program := "ytnjjelepcnofjaa", sum := "9914add3696f8a82c02ecdf41ed33da7517a514f5fab93e05b04954ef32ea4d9", func := "loop.example/pub-g03238/laws.FnProjKept", spec := "fnProjKept", inPlace := ["math/bits.Sub64", "math/bits.Add64"], apart := false }
def FnProjKeptSaid : Prop := fnProjKeptRow.holds Try.pinned (OpenSpec.ofChange fnProjKeptSpec)

/-- ITS FALSE NEIGHBOUR: 'it returns false'. Refute it at one input. -/
def fnProjKeptWrong : ChangeSpec := { name := "fnProjKept", fn := fun _ => fun
  | [d] => { results := [.lit (.bool false)], args := [d] }
  | _ => none }
def FnProjKeptWrongFalsely : Prop := fnProjKeptRow.holds Try.pinned (OpenSpec.ofChange fnProjKeptWrong)

/-- 'laws.FnProjNegate': WHATEVER THE INPUT: true; the input reads as it did. -/
def fnProjNegateSpec : ChangeSpec := { name := "fnProjNegate", fn := fun _ => fun
  | [d1, d2] => { results := [.lit (.bool true)], args := [d1, d2] }
  | _ => none }
def fnProjNegateRow : OpenClaim := { program := "ytnjjelepcnofjaa", sum := "9914add3696f8a82c02ecdf41ed33da7517a514f5fab93e05b04954ef32ea4d9", func := "loop.example/pub-g03238/laws.FnProjNegate", spec := "fnProjNegate", inPlace := ["math/bits.Sub64", "math/bits.Add64"], apart := false }
def FnProjNegateSaid : Prop := fnProjNegateRow.holds Try.pinned (OpenSpec.ofChange fnProjNegateSpec)

/-- ITS FALSE NEIGHBOUR: 'it returns false'. Refute it at one input. -/
def fnProjNegateWrong : ChangeSpec := { name := "fnProjNegate", fn := fun _ => fun
  | [d1, d2] => { results := [.lit (.bool false)], args := [d1, d2] }
  | _ => none }
def FnProjNegateWrongFalsely : Prop := fnProjNegateRow.holds Try.pinned (OpenSpec.ofChange fnProjNegateWrong)

/-- 'laws.FnProjSelect': WHATEVER THE INPUT: true; the input reads as it did. -/
def fnProjSelectSpec : ChangeSpec := { name := "fnProjSelect", fn := fun _ => fun
  | [d1, d2, d3] => { results := [.lit (.bool true)], args := [d1, d2, d3] }
  | _ => none }
def fnProjSelectRow : OpenClaim := { program := "ytnjjelepcnofjaa", sum := "9914add3696f8a82c02ecdf41ed33da7517a514f5fab93e05b04954ef32ea4d9", func := "loop.example/pub-g03238/laws.FnProjSelect", spec := "fnProjSelect", inPlace := ["math/bits.Sub64", "math/bits.Add64"], apart := false }
def FnProjSelectSaid : Prop := fnProjSelectRow.holds Try.pinned (OpenSpec.ofChange fnProjSelectSpec)

/-- ITS FALSE NEIGHBOUR: 'it returns false'. Refute it at one input. -/
def fnProjSelectWrong : ChangeSpec := { name := "fnProjSelect", fn := fun _ => fun
  | [d1, d2, d3] => { results := [.lit (.bool false)], args := [d1, d2, d3] }
  | _ => none }
def FnProjSelectWrongFalsely : Prop := fnProjSelectRow.holds Try.pinned (OpenSpec.ofChange fnProjSelectWrong)

/- THE SECOND FORM. 'bulk': how many values and letters a reading holds, each counted each time it is reached (what is shared counts as often as it is met; a slice's spare places count too). A statement '..UptoSaid' is the law's where the arguments, and the package variables that the reading takes, are together of bulk at most 1048576: NARROWER than '..Said'. Prove '..Said' where nothing that the law and all that it calls make is longer than what came in: it says more and counts as full. Else prove '..UptoSaid'. A law counts once. -/
mutual
def uptoBulk {H : Type} : DataW H → Nat
  | .lit (.string bytes) => bytes.length + 1
  | .lit _ => 1
  | .nil => 1
  | .ptr d => uptoBulk d + 1
  | .slice elems spare => uptoBulkAll elems + uptoBulkAll spare + 1
  | .agg parts => uptoBulkAll parts + 1
  | .iface _ d => uptoBulk d + 1
  | .map entries => uptoBulkEntries entries + 1
  | .held _ => 1
def uptoBulkAll {H : Type} : List (DataW H) → Nat
  | [] => 0
  | d :: r => uptoBulk d + uptoBulkAll r
def uptoBulkEntries {H : Type} : List (Lit × DataW H) → Nat
  | [] => 0
  | x :: r => uptoBulkEntry x + uptoBulkEntries r
def uptoBulkEntry {H : Type} : Lit × DataW H → Nat
  | (.string bytes, d) => bytes.length + uptoBulk d + 1
  | (_, d) => uptoBulk d + 1
 end
def uptoSmall : (H : Type) → List (DataW H) → Bool := fun _ ds => decide (uptoBulkAll ds ≤ 1048576)
def OpenSpec.upto (s : _root_.Go.ChangeSpec) : _root_.Go.OpenSpec := { _root_.Go.OpenSpec.ofChange s with cond := some uptoSmall }

/-- 'laws.FnProjKept', WHERE WHAT IT READS IS OF BULK AT MOST 1048576: true; the input reads as it did. -/
def fnProjKeptUptoRow : OpenClaim := { program := "ytnjjelepcnofjaa", sum := "9914add3696f8a82c02ecdf41ed33da7517a514f5fab93e05b04954ef32ea4d9", func := "loop.example/pub-g03238/laws.FnProjKept", spec := "fnProjKept", inPlace := ["math/bits.Sub64", "math/bits.Add64"], apart := false, narrowed := true }
def FnProjKeptUptoSaid : Prop := fnProjKeptUptoRow.holds Try.pinned (OpenSpec.upto fnProjKeptSpec)

/-- 'laws.FnProjNegate', WHERE WHAT IT READS IS OF BULK AT MOST 1048576: true; the input reads as it did. -/
def fnProjNegateUptoRow : OpenClaim := { program := "ytnjjelepcnofjaa", sum := "9914add3696f8a82c02ecdf41ed33da7517a514f5fab93e05b04954ef32ea4d9", func := "loop.example/pub-g03238/laws.FnProjNegate", spec := "fnProjNegate", inPlace := ["math/bits.Sub64", "math/bits.Add64"], apart := false, narrowed := true }
def FnProjNegateUptoSaid : Prop := fnProjNegateUptoRow.holds Try.pinned (OpenSpec.upto fnProjNegateSpec)

/-- 'laws.FnProjSelect', WHERE WHAT IT READS IS OF BULK AT MOST 1048576: true; the input reads as it did. -/
def fnProjSelectUptoRow : OpenClaim := { program := "ytnjjelepcnofjaa", sum := "9914add3696f8a82c02ecdf41ed33da7517a514f5fab93e05b04954ef32ea4d9", func := "loop.example/pub-g03238/laws.FnProjSelect", spec := "fnProjSelect", inPlace := ["math/bits.Sub64", "math/bits.Add64"], apart := false, narrowed := true }
def FnProjSelectUptoSaid : Prop := fnProjSelectUptoRow.holds Try.pinned (OpenSpec.upto fnProjSelectSpec)

end Rows
end Go.Proofs.Ytnjjelepcnofjaa
