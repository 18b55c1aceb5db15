/-
  No cell of these rows narrows 'for every input' (looked for: loops, veiled, ifaces, maps, wideKeys, modest, calm, conditions, laid).
  DERIVED. THE GIVEN ROWS OF THIS SEAT. 3 by the template 'for every input the law returns true; each argument reads behind the call as it read before'; 0 by the template 'total and deterministic' (their statements: YtblhnmahkabmiaaTotals.lean).
  GIVEN WITH THE SEED: the statements are not yours to turn. If you find one false, say at which input.
  Laid BY PROGRAM, IN A SANDBOX (cutbox-rows.mjs): the forced cells as the released guide's own fill.sh prints them over the translation 08ac8f15a7ffdeb3… (all of the seat's roots in one cut). By AI agents, Wed Nov 11 2026. No macro, syntax, notation, axiom, sorry.
-/
import Derived.Test.YtblhnmahkabmiaaChecked
import GoSem.Claim
import GoSem.ClaimJoined
import GoSem.ClaimMapViews
import Derived.JoinedTies
import Derived.KernelRfl
namespace Go.Proofs.Ytblhnmahkabmiaa
/- THE CELL 'sum', in the pinned program and in every row, IS THE sha256 OF THE DUMP (.gsa) THAT YtblhnmahkabmiaaProg.lean LOADS. Nothing in Lean hashes anything: it is a label: what it is worth is what the hold of that sum in a sandbox is worth. -/
noncomputable def Try.pinned : Pinned := { name := "ytblhnmahkabmiaa", sum := "08ac8f15a7ffdeb35331fa9f04399dc5cad00570b769cb83b57297f1aa497b9b", checked := Try.checked }
namespace Rows
def none {H : Type} : Left H := { results := [], args := [] }

/-- 'laws.FnProjAdd': WHATEVER THE INPUT: true; the input reads as it did. -/
def fnProjAddSpec : ChangeSpec := { name := "fnProjAdd", fn := fun _ => fun
  | [d1, d2] => { results := [.lit (.bool true)], args := [d1, d2] }
  | _ => none }
def fnProjAddRow : OpenClaim := { program := "ytblhnmahkabmiaa", sum := "08ac8f15a7ffdeb35331fa9f04399dc5cad00570b769cb83b57297f1aa497b9b", func := "loop.example/pub-g03238/laws.FnProjAdd", spec := "fnProjAdd", inPlace := ["math/bits.Sub64", "math/bits.Add64"], apart := false }
def FnProjAddSaid : Prop := fnProjAddRow.holds Try.pinned (OpenSpec.ofChange fnProjAddSpec)

/-- ITS FALSE NEIGHBOUR: 'it returns false'. Refute it at one input. -/
def fnProjAddWrong : ChangeSpec := { name := "fnProjAdd", fn := fun _ => fun
  | [d1, d2] => { results := [.lit (.bool false)], args := [d1, d2] }
  | _ => none }
def FnProjAddWrongFalsely : Prop := fnProjAddRow.holds Try.pinned (OpenSpec.ofChange fnProjAddWrong)

/-- 'laws.FnProjScaled': WHATEVER THE INPUT: true; the input reads as it did. -/
def fnProjScaledSpec : ChangeSpec := { name := "fnProjScaled", fn := fun _ => fun
  | [d1, d2, d3] => { results := [.lit (.bool true)], args := [d1, d2, d3] }
  | _ => none }
def fnProjScaledRow : OpenClaim := { program := "ytblhnmahkabmiaa", sum := "08ac8f15a7ffdeb35331fa9f04399dc5cad00570b769cb83b57297f1aa497b9b", func := "loop.example/pub-g03238/laws.FnProjScaled", spec := "fnProjScaled", inPlace := ["math/bits.Sub64", "math/bits.Add64"], apart := false }
def FnProjScaledSaid : Prop := fnProjScaledRow.holds Try.pinned (OpenSpec.ofChange fnProjScaledSpec)

/-- ITS FALSE NEIGHBOUR: 'it returns false'. Refute it at one input. -/
def fnProjScaledWrong : ChangeSpec := { name := "fnProjScaled", fn := fun _ => fun
  | [d1, d2, d3] => { results := [.lit (.bool false)], args := [d1, d2, d3] }
  | _ => none }
def FnProjScaledWrongFalsely : Prop := fnProjScaledRow.holds Try.pinned (OpenSpec.ofChange fnProjScaledWrong)

/-- 'laws.FnProjInfinity': WHATEVER THE INPUT: true; the input reads as it did. -/
def fnProjInfinitySpec : ChangeSpec := { name := "fnProjInfinity", fn := fun _ => fun
  | [d] => { results := [.lit (.bool true)], args := [d] }
  | _ => none }
def fnProjInfinityRow : OpenClaim := { program := "ytblhnmahkabmiaa", sum := "08ac8f15a7ffdeb35331fa9f04399dc5cad00570b769cb83b57297f1aa497b9b", func := "loop.example/pub-g03238/laws.FnProjInfinity", spec := "fnProjInfinity", inPlace := ["math/bits.Add64", "math/bits.Sub64"], apart := false }
def FnProjInfinitySaid : Prop := fnProjInfinityRow.holds Try.pinned (OpenSpec.ofChange fnProjInfinitySpec)

/-- ITS FALSE NEIGHBOUR: 'it returns false'. Refute it at one input. -/
def fnProjInfinityWrong : ChangeSpec := { name := "fnProjInfinity", fn := fun _ => fun
  | [d] => { results := [.lit (.bool false)], args := [d] }
  | _ => none }
def FnProjInfinityWrongFalsely : Prop := fnProjInfinityRow.holds Try.pinned (OpenSpec.ofChange fnProjInfinityWrong)

/- THE SECOND FORM. 'bulk': how many values and letters a reading holds, each counted each time it is reached (what is shared counts as often as it is met; a slice's spare places count too). A statement '..UptoSaid' is the law's where the arguments, and the package variables that the reading takes, are together of bulk at most 1048576: NARROWER than '..Said'. Prove '..Said' where nothing that the law and all that it calls make is longer than what came in: it says more and counts as full. Else prove '..UptoSaid'. A law counts once. -/
mutual
def uptoBulk {H : Type} : DataW H → Nat
  | .lit (.string bytes) => bytes.length + 1
  | .lit _ => 1
  | .nil => 1
  | .ptr d => uptoBulk d + 1
  | .slice elems spare => uptoBulkAll elems + uptoBulkAll spare + 1
  | .agg parts => uptoBulkAll parts + 1
  | .iface _ d => uptoBulk d + 1
  | .map entries => uptoBulkEntries entries + 1
  | .held _ => 1
def uptoBulkAll {H : Type} : List (DataW H) → Nat
  | [] => 0
  | d :: r => uptoBulk d + uptoBulkAll r
def uptoBulkEntries {H : Type} : List (Lit × DataW H) → Nat
  | [] => 0
  | x :: r => uptoBulkEntry x + uptoBulkEntries r
def uptoBulkEntry {H : Type} : Lit × DataW H → Nat
  | (.string bytes, d) => bytes.length + uptoBulk d + 1
  | (_, d) => uptoBulk d + 1
 end
def uptoSmall : (H : Type) → List (DataW H) → Bool := fun _ ds => decide (uptoBulkAll ds ≤ 1048576)
def OpenSpec.upto (s : _root_.Go.ChangeSpec) : _root_.Go.OpenSpec := { _root_.Go.OpenSpec.ofChange s with cond := some uptoSmall }

/-- 'laws.FnProjAdd', WHERE WHAT IT READS IS OF BULK AT MOST 1048576: true; the input reads as it did. -/
def fnProjAddUptoRow : OpenClaim := { program := "ytblhnmahkabmiaa", sum := "08ac8f15a7ffdeb35331fa9f04399dc5cad00570b769cb83b57297f1aa497b9b", func := "loop.example/pub-g03238/laws.FnProjAdd", spec := "fnProjAdd", inPlace := ["math/bits.Sub64", "math/bits.Add64"], apart := false, narrowed := true }
def FnProjAddUptoSaid : Prop := fnProjAddUptoRow.holds Try.pinned (OpenSpec.upto fnProjAddSpec)

/-- 'laws.FnProjScaled', WHERE WHAT IT READS IS OF BULK AT MOST 1048576: true; the input reads as it did. -/
def fnProjScaledUptoRow : OpenClaim := { program := "ytblhnmahkabmiaa", sum := "08ac8f15a7ffdeb35331fa9f04399dc5cad00570b769cb83b57297f1aa497b9b", func := "loop.example/pub-g03238/laws.FnProjScaled", spec := "fnProjScaled", inPlace := ["math/bits.Sub64", "math/bits.Add64"], apart := false, narrowed := true }
def FnProjScaledUptoSaid : Prop := fnProjScaledUptoRow.holds Try.pinned (OpenSpec.upto fnProjScaledSpec)

/-- 'laws.FnProjInfinity', WHERE WHAT IT READS IS OF BULK AT MOST 1048576: true; the input reads as it did. -/
def fnProjInfinityUptoRow : OpenClaim := { program := "ytblhnmahkabmiaa", sum := "08ac8f15a7ffdeb35331fa9f04399dc5cad00570b769cb83b57297f1aa497b9b", func := "loop.example/pub-g03238/laws.FnProjInfinity", spec := "fnProjInfinity", inPlace := ["math/bits.Add64", "math/bits.Sub64"], apart := false, narrowed := true }
def FnProjInfinityUptoSaid : Prop := fnProjInfinityUptoRow.holds Try.pinned (OpenSpec.upto fnProjInfinitySpec)

end Rows
end Go.Proofs.Ytblhnmahkabmiaa
