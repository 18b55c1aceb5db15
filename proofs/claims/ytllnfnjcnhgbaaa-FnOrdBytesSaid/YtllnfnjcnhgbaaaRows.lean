/-
  No cell of these rows narrows 'for every input' (looked for: loops, veiled, ifaces, maps, wideKeys, modest, calm, conditions, laid).
  DERIVED. THE GIVEN ROWS OF THIS SEAT. 4 by the template 'for every input the law returns true; each argument reads behind the call as it read before'; 0 by the template 'total and deterministic' (their statements: YtllnfnjcnhgbaaaTotals.lean).
  GIVEN WITH THE SEED: the statements are not yours to turn. If you find one false, say at which input.
  Laid BY PROGRAM, IN A SANDBOX (cutbox-rows.mjs): the forced cells as the released guide's own fill.sh prints them over the translation 1b714f521e2bc2b6… (all of the seat's roots in one cut). By AI agents, Wed Nov 11 2026. No macro, syntax, notation, axiom, sorry.
-/
import Derived.Test.YtllnfnjcnhgbaaaChecked
import GoSem.Claim
import GoSem.ClaimJoined
import GoSem.ClaimMapViews
import Derived.JoinedTies
import Derived.KernelRfl
namespace Go.Proofs.Ytllnfnjcnhgbaaa
/- THE CELL 'sum', in the pinned program and in every row, IS THE sha256 OF THE DUMP (.gsa) THAT YtllnfnjcnhgbaaaProg.lean LOADS. Nothing in Lean hashes anything: it is a label: what it is worth is what the hold of that sum in a sandbox is worth. -/
noncomputable def Try.pinned : Pinned := { name := "ytllnfnjcnhgbaaa", sum := "1b714f521e2bc2b6f40b505b6018e616f72297481c40ee833ec0458008363cc1", checked := Try.checked }
namespace Rows
def none {H : Type} : Left H := { results := [], args := [] }

/-- 'laws.FnOrdRsh': WHATEVER THE INPUT: true; the input reads as it did. -/
def fnOrdRshSpec : ChangeSpec := { name := "fnOrdRsh", fn := fun _ => fun
  | [d1, d2] => { results := [.lit (.bool true)], args := [d1, d2] }
  | _ => none }
def fnOrdRshRow : OpenClaim := { program := "ytllnfnjcnhgbaaa", sum := "1b714f521e2bc2b6f40b505b6018e616f72297481c40ee833ec0458008363cc1", func := "loop.example/pub-g03238/laws.FnOrdRsh", spec := "fnOrdRsh", apart := false }
def FnOrdRshSaid : Prop := fnOrdRshRow.holds Try.pinned (OpenSpec.ofChange fnOrdRshSpec)

/-- ITS FALSE NEIGHBOUR: 'it returns false'. Refute it at one input. -/
def fnOrdRshWrong : ChangeSpec := { name := "fnOrdRsh", fn := fun _ => fun
  | [d1, d2] => { results := [.lit (.bool false)], args := [d1, d2] }
  | _ => none }
def FnOrdRshWrongFalsely : Prop := fnOrdRshRow.holds Try.pinned (OpenSpec.ofChange fnOrdRshWrong)

/-- 'laws.FnBooth': WHATEVER THE INPUT: true; the input reads as it did. -/
def fnBoothSpec : ChangeSpec := { name := "fnBooth", fn := fun _ => fun
  | [d1, d2] => { results := [.lit (.bool true)], args := [d1, d2] }
  | _ => none }
def fnBoothRow : OpenClaim := { program := "ytllnfnjcnhgbaaa", sum := "1b714f521e2bc2b6f40b505b6018e616f72297481c40ee833ec0458008363cc1", func := "loop.example/pub-g03238/laws.FnBooth", spec := "fnBooth", apart := false }
def FnBoothSaid : Prop := fnBoothRow.holds Try.pinned (OpenSpec.ofChange fnBoothSpec)

/-- ITS FALSE NEIGHBOUR: 'it returns false'. Refute it at one input. -/
def fnBoothWrong : ChangeSpec := { name := "fnBooth", fn := fun _ => fun
  | [d1, d2] => { results := [.lit (.bool false)], args := [d1, d2] }
  | _ => none }
def FnBoothWrongFalsely : Prop := fnBoothRow.holds Try.pinned (OpenSpec.ofChange fnBoothWrong)

/-- 'laws.FnOrdLimbs': WHATEVER THE INPUT: true; the input reads as it did. -/
def fnOrdLimbsSpec : ChangeSpec := { name := "fnOrdLimbs", fn := fun _ => fun
  | [d] => { results := [.lit (.bool true)], args := [d] }
  | _ => none }
def fnOrdLimbsRow : OpenClaim := { program := "ytllnfnjcnhgbaaa", sum := "1b714f521e2bc2b6f40b505b6018e616f72297481c40ee833ec0458008363cc1", func := "loop.example/pub-g03238/laws.FnOrdLimbs", spec := "fnOrdLimbs", inPlace := ["math/bits.Sub64"], apart := false }
def FnOrdLimbsSaid : Prop := fnOrdLimbsRow.holds Try.pinned (OpenSpec.ofChange fnOrdLimbsSpec)

/-- ITS FALSE NEIGHBOUR: 'it returns false'. Refute it at one input. -/
def fnOrdLimbsWrong : ChangeSpec := { name := "fnOrdLimbs", fn := fun _ => fun
  | [d] => { results := [.lit (.bool false)], args := [d] }
  | _ => none }
def FnOrdLimbsWrongFalsely : Prop := fnOrdLimbsRow.holds Try.pinned (OpenSpec.ofChange fnOrdLimbsWrong)

/-- 'laws.FnOrdBytes': WHATEVER THE INPUT: true; the input reads as it did. -/
def fnOrdBytesSpec : ChangeSpec := { name := "fnOrdBytes", fn := fun _ => fun
  | [d] => { results := [.lit (.bool true)], args := [d] }
  | _ => none }
def fnOrdBytesRow : OpenClaim := { program := "ytllnfnjcnhgbaaa", sum := "1b714f521e2bc2b6f40b505b6018e616f72297481c40ee833ec0458008363cc1", func := "loop.example/pub-g03238/laws.FnOrdBytes", spec := "fnOrdBytes", inPlace := ["math/bits.Sub64"], apart := false }
def FnOrdBytesSaid : Prop := fnOrdBytesRow.holds Try.pinned (OpenSpec.ofChange fnOrdBytesSpec)

/-- ITS FALSE NEIGHBOUR: 'it returns false'. Refute it at one input. -/
def fnOrdBytesWrong : ChangeSpec := { name := "fnOrdBytes", fn := fun _ => fun
  | [d] => { results := [.lit (.bool false)], args := [d] }
  | _ => none }
def FnOrdBytesWrongFalsely : Prop := fnOrdBytesRow.holds Try.pinned (OpenSpec.ofChange fnOrdBytesWrong)

/- THE SECOND FORM. 'bulk': how many values and letters a reading holds, each counted each time it is reached (what is shared counts as often as it is met; a slice's spare places count too). A statement '..UptoSaid' is the law's where the arguments, and the package variables that the reading takes, are together of bulk at most 1048576: NARROWER than '..Said'. Prove '..Said' where nothing that the law and all that it calls make is longer than what came in: it says more and counts as full. Else prove '..UptoSaid'. A law counts once. -/
mutual
def uptoBulk {H : Type} : DataW H → Nat
  | .lit (.string bytes) => bytes.length + 1
  | .lit _ => 1
  | .nil => 1
  | .ptr d => uptoBulk d + 1
  | .slice elems spare => uptoBulkAll elems + uptoBulkAll spare + 1
  | .agg parts => uptoBulkAll parts + 1
  | .iface _ d => uptoBulk d + 1
  | .map entries => uptoBulkEntries entries + 1
  | .held _ => 1
def uptoBulkAll {H : Type} : List (DataW H) → Nat
  | [] => 0
  | d :: r => uptoBulk d + uptoBulkAll r
def uptoBulkEntries {H : Type} : List (Lit × DataW H) → Nat
  | [] => 0
  | x :: r => uptoBulkEntry x + uptoBulkEntries r
def uptoBulkEntry {H : Type} : Lit × DataW H → Nat
  | (.string bytes, d) => bytes.length + uptoBulk d + 1
  | (_, d) => uptoBulk d + 1
 end
def uptoSmall : (H : Type) → List (DataW H) → Bool := fun _ ds => decide (uptoBulkAll ds ≤ 1048576)
def OpenSpec.upto (s : _root_.Go.ChangeSpec) : _root_.Go.OpenSpec := { _root_.Go.OpenSpec.ofChange s with cond := some uptoSmall }

/-- 'laws.FnOrdRsh', WHERE WHAT IT READS IS OF BULK AT MOST 1048576: true; the input reads as it did. -/
def fnOrdRshUptoRow : OpenClaim := { program := "ytllnfnjcnhgbaaa", sum := "1b714f521e2bc2b6f40b505b6018e616f72297481c40ee833ec0458008363cc1", func := "loop.example/pub-g03238/laws.FnOrdRsh", spec := "fnOrdRsh", apart := false, narrowed := true }
def FnOrdRshUptoSaid : Prop := fnOrdRshUptoRow.holds Try.pinned (OpenSpec.upto fnOrdRshSpec)

/-- 'laws.FnBooth', WHERE WHAT IT READS IS OF BULK AT MOST 1048576: true; the input reads as it did. -/
def fnBoothUptoRow : OpenClaim := { program := "ytllnfnjcnhgbaaa", sum := "1b714f521e2bc2b6f40b505b6018e616f72297481c40ee833ec0458008363cc1", func := "loop.example/pub-g03238/laws.FnBooth", spec := "fnBooth", apart := false, narrowed := true }
def FnBoothUptoSaid : Prop := fnBoothUptoRow.holds Try.pinned (OpenSpec.upto fnBoothSpec)

/-- 'laws.FnOrdLimbs', WHERE WHAT IT READS IS OF BULK AT MOST 1048576: true; the input reads as it did. -/
def fnOrdLimbsUptoRow : OpenClaim := { program := "ytllnfnjcnhgbaaa", sum := "1b714f521e2bc2b6f40b505b6018e616f72297481c40ee833ec0458008363cc1", func := "loop.example/pub-g03238/laws.FnOrdLimbs", spec := "fnOrdLimbs", inPlace := ["math/bits.Sub64"], apart := false, narrowed := true }
def FnOrdLimbsUptoSaid : Prop := fnOrdLimbsUptoRow.holds Try.pinned (OpenSpec.upto fnOrdLimbsSpec)

/-- 'laws.FnOrdBytes', WHERE WHAT IT READS IS OF BULK AT MOST 1048576: true; the input reads as it did. -/
def fnOrdBytesUptoRow : OpenClaim := { program := "ytllnfnjcnhgbaaa", sum := "1b714f521e2bc2b6f40b505b6018e616f72297481c40ee833ec0458008363cc1", func := "loop.example/pub-g03238/laws.FnOrdBytes", spec := "fnOrdBytes", inPlace := ["math/bits.Sub64"], apart := false, narrowed := true }
def FnOrdBytesUptoSaid : Prop := fnOrdBytesUptoRow.holds Try.pinned (OpenSpec.upto fnOrdBytesSpec)

end Rows
end Go.Proofs.Ytllnfnjcnhgbaaa
