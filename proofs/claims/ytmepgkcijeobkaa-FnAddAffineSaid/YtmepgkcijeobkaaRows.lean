/-
  No cell of these rows narrows 'for every input' (looked for: loops, veiled, ifaces, maps, wideKeys, modest, calm, conditions, laid).
  DERIVED. THE GIVEN ROWS OF THIS SEAT. 19 by the template 'for every input the law returns true; each argument reads behind the call as it read before'; 0 by the template 'total and deterministic' (their statements: YtmepgkcijeobkaaTotals.lean).
  GIVEN WITH THE SEED: the statements are not yours to turn. If you find one false, say at which input.
  Laid BY PROGRAM, IN A SANDBOX (cutbox-rows.mjs): the forced cells as the released guide's own fill.sh prints them over the translation 9f30b23046a80c88… (all of the seat's roots in one cut). By AI agents, Wed Nov 11 2026. No macro, syntax, notation, axiom, sorry.
-/
import Derived.Test.YtmepgkcijeobkaaChecked
import GoSem.Claim
import GoSem.ClaimJoined
import GoSem.ClaimMapViews
import Derived.JoinedTies
import Derived.KernelRfl
namespace Go.Proofs.Ytmepgkcijeobkaa
/- THE CELL 'sum', in the pinned program and in every row, IS THE sha256 OF THE DUMP (.gsa) THAT YtmepgkcijeobkaaProg.lean LOADS. Nothing in Lean hashes anything: it is a label: what it is worth is what the hold of that sum in a sandbox is worth. -/
noncomputable def Try.pinned : Pinned := { name := "ytmepgkcijeobkaa", sum := "9f30b23046a80c8857aad71e04dca83c761fcf342117b4c82e6c2f63c0eaa35a", checked := Try.checked }
namespace Rows
def none {H : Type} : Left H := { results := [], args := [] }

/-- 'laws.FnFirst': WHATEVER THE INPUT: true; the input reads as it did. -/
def fnFirstSpec : ChangeSpec := { name := "fnFirst", fn := fun _ => fun
  | [d] => { results := [.lit (.bool true)], args := [d] }
  | _ => none }
def fnFirstRow : OpenClaim := { program := "ytmepgkcijeobkaa", sum := "9f30b23046a80c8857aad71e04dca83c761fcf342117b4c82e6c2f63c0eaa35a", func := "loop.example/pub-g03238/laws.FnFirst", spec := "fnFirst", inPlace := ["math/bits.Sub64", "math/bits.Add64"], apart := false }
def FnFirstSaid : Prop := fnFirstRow.holds Try.pinned (OpenSpec.ofChange fnFirstSpec)

/-- ITS FALSE NEIGHBOUR: 'it returns false'. Refute it at one input. -/
def fnFirstWrong : ChangeSpec := { name := "fnFirst", fn := fun _ => fun
  | [d] => { results := [.lit (.bool false)], args := [d] }
  | _ => none }
def FnFirstWrongFalsely : Prop := fnFirstRow.holds Try.pinned (OpenSpec.ofChange fnFirstWrong)

/-- 'laws.FnSharedSide': WHATEVER THE INPUT: true; the input reads as it did. -/
def fnSharedSideSpec : ChangeSpec := { name := "fnSharedSide", fn := fun _ => fun
  | [d] => { results := [.lit (.bool true)], args := [d] }
  | _ => none }
def fnSharedSideRow : OpenClaim := { program := "ytmepgkcijeobkaa", sum := "9f30b23046a80c8857aad71e04dca83c761fcf342117b4c82e6c2f63c0eaa35a", func := "loop.example/pub-g03238/laws.FnSharedSide", spec := "fnSharedSide", inPlace := ["math/bits.Sub64", "math/bits.Add64"], apart := false }
def FnSharedSideSaid : Prop := fnSharedSideRow.holds Try.pinned (OpenSpec.ofChange fnSharedSideSpec)

/-- ITS FALSE NEIGHBOUR: 'it returns false'. Refute it at one input. -/
def fnSharedSideWrong : ChangeSpec := { name := "fnSharedSide", fn := fun _ => fun
  | [d] => { results := [.lit (.bool false)], args := [d] }
  | _ => none }
def FnSharedSideWrongFalsely : Prop := fnSharedSideRow.holds Try.pinned (OpenSpec.ofChange fnSharedSideWrong)

/-- 'laws.FnKept': WHATEVER THE INPUT: true; the input reads as it did. -/
def fnKeptSpec : ChangeSpec := { name := "fnKept", fn := fun _ => fun
  | [d1, d2] => { results := [.lit (.bool true)], args := [d1, d2] }
  | _ => none }
def fnKeptRow : OpenClaim := { program := "ytmepgkcijeobkaa", sum := "9f30b23046a80c8857aad71e04dca83c761fcf342117b4c82e6c2f63c0eaa35a", func := "loop.example/pub-g03238/laws.FnKept", spec := "fnKept", inPlace := ["math/bits.Sub64", "math/bits.Add64"], apart := false }
def FnKeptSaid : Prop := fnKeptRow.holds Try.pinned (OpenSpec.ofChange fnKeptSpec)

/-- ITS FALSE NEIGHBOUR: 'it returns false'. Refute it at one input. -/
def fnKeptWrong : ChangeSpec := { name := "fnKept", fn := fun _ => fun
  | [d1, d2] => { results := [.lit (.bool false)], args := [d1, d2] }
  | _ => none }
def FnKeptWrongFalsely : Prop := fnKeptRow.holds Try.pinned (OpenSpec.ofChange fnKeptWrong)

/-- 'laws.FnNegate': WHATEVER THE INPUT: true; the input reads as it did. -/
def fnNegateSpec : ChangeSpec := { name := "fnNegate", fn := fun _ => fun
  | [d1, d2] => { results := [.lit (.bool true)], args := [d1, d2] }
  | _ => none }
def fnNegateRow : OpenClaim := { program := "ytmepgkcijeobkaa", sum := "9f30b23046a80c8857aad71e04dca83c761fcf342117b4c82e6c2f63c0eaa35a", func := "loop.example/pub-g03238/laws.FnNegate", spec := "fnNegate", inPlace := ["math/bits.Sub64", "math/bits.Add64"], apart := false }
def FnNegateSaid : Prop := fnNegateRow.holds Try.pinned (OpenSpec.ofChange fnNegateSpec)

/-- ITS FALSE NEIGHBOUR: 'it returns false'. Refute it at one input. -/
def fnNegateWrong : ChangeSpec := { name := "fnNegate", fn := fun _ => fun
  | [d1, d2] => { results := [.lit (.bool false)], args := [d1, d2] }
  | _ => none }
def FnNegateWrongFalsely : Prop := fnNegateRow.holds Try.pinned (OpenSpec.ofChange fnNegateWrong)

/-- 'laws.FnProjMult': WHATEVER THE INPUT: true; the input reads as it did. -/
def fnProjMultSpec : ChangeSpec := { name := "fnProjMult", fn := fun _ => fun
  | [d1, d2] => { results := [.lit (.bool true)], args := [d1, d2] }
  | _ => none }
def fnProjMultRow : OpenClaim := { program := "ytmepgkcijeobkaa", sum := "9f30b23046a80c8857aad71e04dca83c761fcf342117b4c82e6c2f63c0eaa35a", func := "loop.example/pub-g03238/laws.FnProjMult", spec := "fnProjMult", inPlace := ["math/bits.Sub64", "math/bits.Add64"], apart := false }
def FnProjMultSaid : Prop := fnProjMultRow.holds Try.pinned (OpenSpec.ofChange fnProjMultSpec)

/-- ITS FALSE NEIGHBOUR: 'it returns false'. Refute it at one input. -/
def fnProjMultWrong : ChangeSpec := { name := "fnProjMult", fn := fun _ => fun
  | [d1, d2] => { results := [.lit (.bool false)], args := [d1, d2] }
  | _ => none }
def FnProjMultWrongFalsely : Prop := fnProjMultRow.holds Try.pinned (OpenSpec.ofChange fnProjMultWrong)

/-- 'laws.FnSelect': WHATEVER THE INPUT: true; the input reads as it did. -/
def fnSelectSpec : ChangeSpec := { name := "fnSelect", fn := fun _ => fun
  | [d1, d2, d3] => { results := [.lit (.bool true)], args := [d1, d2, d3] }
  | _ => none }
def fnSelectRow : OpenClaim := { program := "ytmepgkcijeobkaa", sum := "9f30b23046a80c8857aad71e04dca83c761fcf342117b4c82e6c2f63c0eaa35a", func := "loop.example/pub-g03238/laws.FnSelect", spec := "fnSelect", inPlace := ["math/bits.Sub64", "math/bits.Add64"], apart := false }
def FnSelectSaid : Prop := fnSelectRow.holds Try.pinned (OpenSpec.ofChange fnSelectSpec)

/-- ITS FALSE NEIGHBOUR: 'it returns false'. Refute it at one input. -/
def fnSelectWrong : ChangeSpec := { name := "fnSelect", fn := fun _ => fun
  | [d1, d2, d3] => { results := [.lit (.bool false)], args := [d1, d2, d3] }
  | _ => none }
def FnSelectWrongFalsely : Prop := fnSelectRow.holds Try.pinned (OpenSpec.ofChange fnSelectWrong)

/-- 'laws.FnParse': WHATEVER THE INPUT: true; the input reads as it did. -/
def fnParseSpec : ChangeSpec := { name := "fnParse", fn := fun _ => fun
  | [d] => { results := [.lit (.bool true)], args := [d] }
  | _ => none }
def fnParseRow : OpenClaim := { program := "ytmepgkcijeobkaa", sum := "9f30b23046a80c8857aad71e04dca83c761fcf342117b4c82e6c2f63c0eaa35a", func := "loop.example/pub-g03238/laws.FnParse", spec := "fnParse", inPlace := ["math/bits.Sub64", "math/bits.Add64"], apart := false }
def FnParseSaid : Prop := fnParseRow.holds Try.pinned (OpenSpec.ofChange fnParseSpec)

/-- ITS FALSE NEIGHBOUR: 'it returns false'. Refute it at one input. -/
def fnParseWrong : ChangeSpec := { name := "fnParse", fn := fun _ => fun
  | [d] => { results := [.lit (.bool false)], args := [d] }
  | _ => none }
def FnParseWrongFalsely : Prop := fnParseRow.holds Try.pinned (OpenSpec.ofChange fnParseWrong)

/-- 'laws.FnShortBack': WHATEVER THE INPUT: true; the input reads as it did. -/
def fnShortBackSpec : ChangeSpec := { name := "fnShortBack", fn := fun _ => fun
  | [d] => { results := [.lit (.bool true)], args := [d] }
  | _ => none }
def fnShortBackRow : OpenClaim := { program := "ytmepgkcijeobkaa", sum := "9f30b23046a80c8857aad71e04dca83c761fcf342117b4c82e6c2f63c0eaa35a", func := "loop.example/pub-g03238/laws.FnShortBack", spec := "fnShortBack", inPlace := ["math/bits.Sub64", "math/bits.Add64"], apart := false }
def FnShortBackSaid : Prop := fnShortBackRow.holds Try.pinned (OpenSpec.ofChange fnShortBackSpec)

/-- ITS FALSE NEIGHBOUR: 'it returns false'. Refute it at one input. -/
def fnShortBackWrong : ChangeSpec := { name := "fnShortBack", fn := fun _ => fun
  | [d] => { results := [.lit (.bool false)], args := [d] }
  | _ => none }
def FnShortBackWrongFalsely : Prop := fnShortBackRow.holds Try.pinned (OpenSpec.ofChange fnShortBackWrong)

/-- 'laws.FnDouble': WHATEVER THE INPUT: true; the input reads as it did. -/
def fnDoubleSpec : ChangeSpec := { name := "fnDouble", fn := fun _ => fun
  | [d] => { results := [.lit (.bool true)], args := [d] }
  | _ => none }
def fnDoubleRow : OpenClaim := { program := "ytmepgkcijeobkaa", sum := "9f30b23046a80c8857aad71e04dca83c761fcf342117b4c82e6c2f63c0eaa35a", func := "loop.example/pub-g03238/laws.FnDouble", spec := "fnDouble", inPlace := ["math/bits.Sub64", "math/bits.Add64"], apart := false }
def FnDoubleSaid : Prop := fnDoubleRow.holds Try.pinned (OpenSpec.ofChange fnDoubleSpec)

/-- ITS FALSE NEIGHBOUR: 'it returns false'. Refute it at one input. -/
def fnDoubleWrong : ChangeSpec := { name := "fnDouble", fn := fun _ => fun
  | [d] => { results := [.lit (.bool false)], args := [d] }
  | _ => none }
def FnDoubleWrongFalsely : Prop := fnDoubleRow.holds Try.pinned (OpenSpec.ofChange fnDoubleWrong)

/-- 'laws.FnSet': WHATEVER THE INPUT: true; the input reads as it did. -/
def fnSetSpec : ChangeSpec := { name := "fnSet", fn := fun _ => fun
  | [d1, d2] => { results := [.lit (.bool true)], args := [d1, d2] }
  | _ => none }
def fnSetRow : OpenClaim := { program := "ytmepgkcijeobkaa", sum := "9f30b23046a80c8857aad71e04dca83c761fcf342117b4c82e6c2f63c0eaa35a", func := "loop.example/pub-g03238/laws.FnSet", spec := "fnSet", inPlace := ["math/bits.Sub64", "math/bits.Add64"], apart := false }
def FnSetSaid : Prop := fnSetRow.holds Try.pinned (OpenSpec.ofChange fnSetSpec)

/-- ITS FALSE NEIGHBOUR: 'it returns false'. Refute it at one input. -/
def fnSetWrong : ChangeSpec := { name := "fnSet", fn := fun _ => fun
  | [d1, d2] => { results := [.lit (.bool false)], args := [d1, d2] }
  | _ => none }
def FnSetWrongFalsely : Prop := fnSetRow.holds Try.pinned (OpenSpec.ofChange fnSetWrong)

/-- 'laws.FnAddAffine': WHATEVER THE INPUT: true; the input reads as it did. -/
def fnAddAffineSpec : ChangeSpec := { name := "fnAddAffine", fn := fun _ => fun
  | [d1, d2, d3, d4] => { results := [.lit (.bool true)], args := [d1, d2, d3, d4] }
  | _ => none }
def fnAddAffineRow : OpenClaim := { program := "ytmepgkcijeobkaa", sum := "9f30b23046a80c8857aad71e04dca83c761fcf342117b4c82e6c2f63c0eaa35a", func := "loop.example/pub-g03238/laws.FnAddAffine", spec := "fnAddAffine", inPlace := ["math/bits.Sub64", "math/bits.Add64"], apart := false }
def FnAddAffineSaid : Prop := fnAddAffineRow.holds Try.pinned (OpenSpec.ofChange fnAddAffineSpec)

/-- ITS FALSE NEIGHBOUR: 'it returns false'. Refute it at one input. -/
def fnAddAffineWrong : ChangeSpec := { name := "fnAddAffine", fn := fun _ => fun
  | [d1, d2, d3, d4] => { results := [.lit (.bool false)], args := [d1, d2, d3, d4] }
  | _ => none }
def FnAddAffineWrongFalsely : Prop := fnAddAffineRow.holds Try.pinned (OpenSpec.ofChange fnAddAffineWrong)

/-- 'laws.FnAdd': WHATEVER THE INPUT: true; the input reads as it did. -/
def fnAddSpec : ChangeSpec := { name := "fnAdd", fn := fun _ => fun
  | [d1, d2] => { results := [.lit (.bool true)], args := [d1, d2] }
  | _ => none }
def fnAddRow : OpenClaim := { program := "ytmepgkcijeobkaa", sum := "9f30b23046a80c8857aad71e04dca83c761fcf342117b4c82e6c2f63c0eaa35a", func := "loop.example/pub-g03238/laws.FnAdd", spec := "fnAdd", inPlace := ["math/bits.Sub64", "math/bits.Add64"], apart := false }
def FnAddSaid : Prop := fnAddRow.holds Try.pinned (OpenSpec.ofChange fnAddSpec)

/-- ITS FALSE NEIGHBOUR: 'it returns false'. Refute it at one input. -/
def fnAddWrong : ChangeSpec := { name := "fnAdd", fn := fun _ => fun
  | [d1, d2] => { results := [.lit (.bool false)], args := [d1, d2] }
  | _ => none }
def FnAddWrongFalsely : Prop := fnAddRow.holds Try.pinned (OpenSpec.ofChange fnAddWrong)

/-- 'laws.FnAssociates': WHATEVER THE INPUT: true; the input reads as it did. -/
def fnAssociatesSpec : ChangeSpec := { name := "fnAssociates", fn := fun _ => fun
  | [d1, d2, d3] => { results := [.lit (.bool true)], args := [d1, d2, d3] }
  | _ => none }
def fnAssociatesRow : OpenClaim := { program := "ytmepgkcijeobkaa", sum := "9f30b23046a80c8857aad71e04dca83c761fcf342117b4c82e6c2f63c0eaa35a", func := "loop.example/pub-g03238/laws.FnAssociates", spec := "fnAssociates", inPlace := ["math/bits.Sub64", "math/bits.Add64"], apart := false }
def FnAssociatesSaid : Prop := fnAssociatesRow.holds Try.pinned (OpenSpec.ofChange fnAssociatesSpec)

/-- ITS FALSE NEIGHBOUR: 'it returns false'. Refute it at one input. -/
def fnAssociatesWrong : ChangeSpec := { name := "fnAssociates", fn := fun _ => fun
  | [d1, d2, d3] => { results := [.lit (.bool false)], args := [d1, d2, d3] }
  | _ => none }
def FnAssociatesWrongFalsely : Prop := fnAssociatesRow.holds Try.pinned (OpenSpec.ofChange fnAssociatesWrong)

/-- 'laws.FnCommutes': WHATEVER THE INPUT: true; the input reads as it did. -/
def fnCommutesSpec : ChangeSpec := { name := "fnCommutes", fn := fun _ => fun
  | [d1, d2] => { results := [.lit (.bool true)], args := [d1, d2] }
  | _ => none }
def fnCommutesRow : OpenClaim := { program := "ytmepgkcijeobkaa", sum := "9f30b23046a80c8857aad71e04dca83c761fcf342117b4c82e6c2f63c0eaa35a", func := "loop.example/pub-g03238/laws.FnCommutes", spec := "fnCommutes", inPlace := ["math/bits.Sub64", "math/bits.Add64"], apart := false }
def FnCommutesSaid : Prop := fnCommutesRow.holds Try.pinned (OpenSpec.ofChange fnCommutesSpec)

/-- ITS FALSE NEIGHBOUR: 'it returns false'. Refute it at one input. -/
def fnCommutesWrong : ChangeSpec := { name := "fnCommutes", fn := fun _ => fun
  | [d1, d2] => { results := [.lit (.bool false)], args := [d1, d2] }
  | _ => none }
def FnCommutesWrongFalsely : Prop := fnCommutesRow.holds Try.pinned (OpenSpec.ofChange fnCommutesWrong)

/-- 'laws.FnOnCurve': WHATEVER THE INPUT: true; the input reads as it did. -/
def fnOnCurveSpec : ChangeSpec := { name := "fnOnCurve", fn := fun _ => fun
  | [d1, d2] => { results := [.lit (.bool true)], args := [d1, d2] }
  | _ => none }
def fnOnCurveRow : OpenClaim := { program := "ytmepgkcijeobkaa", sum := "9f30b23046a80c8857aad71e04dca83c761fcf342117b4c82e6c2f63c0eaa35a", func := "loop.example/pub-g03238/laws.FnOnCurve", spec := "fnOnCurve", inPlace := ["math/bits.Sub64", "math/bits.Add64"], apart := false }
def FnOnCurveSaid : Prop := fnOnCurveRow.holds Try.pinned (OpenSpec.ofChange fnOnCurveSpec)

/-- ITS FALSE NEIGHBOUR: 'it returns false'. Refute it at one input. -/
def fnOnCurveWrong : ChangeSpec := { name := "fnOnCurve", fn := fun _ => fun
  | [d1, d2] => { results := [.lit (.bool false)], args := [d1, d2] }
  | _ => none }
def FnOnCurveWrongFalsely : Prop := fnOnCurveRow.holds Try.pinned (OpenSpec.ofChange fnOnCurveWrong)

/-- 'laws.FnOpposite': WHATEVER THE INPUT: true; the input reads as it did. -/
def fnOppositeSpec : ChangeSpec := { name := "fnOpposite", fn := fun _ => fun
  | [d1, d2] => { results := [.lit (.bool true)], args := [d1, d2] }
  | _ => none }
def fnOppositeRow : OpenClaim := { program := "ytmepgkcijeobkaa", sum := "9f30b23046a80c8857aad71e04dca83c761fcf342117b4c82e6c2f63c0eaa35a", func := "loop.example/pub-g03238/laws.FnOpposite", spec := "fnOpposite", inPlace := ["math/bits.Sub64", "math/bits.Add64"], apart := false }
def FnOppositeSaid : Prop := fnOppositeRow.holds Try.pinned (OpenSpec.ofChange fnOppositeSpec)

/-- ITS FALSE NEIGHBOUR: 'it returns false'. Refute it at one input. -/
def fnOppositeWrong : ChangeSpec := { name := "fnOpposite", fn := fun _ => fun
  | [d1, d2] => { results := [.lit (.bool false)], args := [d1, d2] }
  | _ => none }
def FnOppositeWrongFalsely : Prop := fnOppositeRow.holds Try.pinned (OpenSpec.ofChange fnOppositeWrong)

/-- 'laws.FnNeutral': WHATEVER THE INPUT: true; the input reads as it did. -/
def fnNeutralSpec : ChangeSpec := { name := "fnNeutral", fn := fun _ => fun
  | [d] => { results := [.lit (.bool true)], args := [d] }
  | _ => none }
def fnNeutralRow : OpenClaim := { program := "ytmepgkcijeobkaa", sum := "9f30b23046a80c8857aad71e04dca83c761fcf342117b4c82e6c2f63c0eaa35a", func := "loop.example/pub-g03238/laws.FnNeutral", spec := "fnNeutral", inPlace := ["math/bits.Add64", "math/bits.Sub64"], apart := false }
def FnNeutralSaid : Prop := fnNeutralRow.holds Try.pinned (OpenSpec.ofChange fnNeutralSpec)

/-- ITS FALSE NEIGHBOUR: 'it returns false'. Refute it at one input. -/
def fnNeutralWrong : ChangeSpec := { name := "fnNeutral", fn := fun _ => fun
  | [d] => { results := [.lit (.bool false)], args := [d] }
  | _ => none }
def FnNeutralWrongFalsely : Prop := fnNeutralRow.holds Try.pinned (OpenSpec.ofChange fnNeutralWrong)

/-- 'laws.FnAddInto': WHATEVER THE INPUT: true; the input reads as it did. -/
def fnAddIntoSpec : ChangeSpec := { name := "fnAddInto", fn := fun _ => fun
  | [d1, d2, d3] => { results := [.lit (.bool true)], args := [d1, d2, d3] }
  | _ => none }
def fnAddIntoRow : OpenClaim := { program := "ytmepgkcijeobkaa", sum := "9f30b23046a80c8857aad71e04dca83c761fcf342117b4c82e6c2f63c0eaa35a", func := "loop.example/pub-g03238/laws.FnAddInto", spec := "fnAddInto", inPlace := ["math/bits.Sub64", "math/bits.Add64"], apart := false }
def FnAddIntoSaid : Prop := fnAddIntoRow.holds Try.pinned (OpenSpec.ofChange fnAddIntoSpec)

/-- ITS FALSE NEIGHBOUR: 'it returns false'. Refute it at one input. -/
def fnAddIntoWrong : ChangeSpec := { name := "fnAddInto", fn := fun _ => fun
  | [d1, d2, d3] => { results := [.lit (.bool false)], args := [d1, d2, d3] }
  | _ => none }
def FnAddIntoWrongFalsely : Prop := fnAddIntoRow.holds Try.pinned (OpenSpec.ofChange fnAddIntoWrong)

/-- 'laws.FnDoubleIsSum': WHATEVER THE INPUT: true; the input reads as it did. -/
def fnDoubleIsSumSpec : ChangeSpec := { name := "fnDoubleIsSum", fn := fun _ => fun
  | [d] => { results := [.lit (.bool true)], args := [d] }
  | _ => none }
def fnDoubleIsSumRow : OpenClaim := { program := "ytmepgkcijeobkaa", sum := "9f30b23046a80c8857aad71e04dca83c761fcf342117b4c82e6c2f63c0eaa35a", func := "loop.example/pub-g03238/laws.FnDoubleIsSum", spec := "fnDoubleIsSum", inPlace := ["math/bits.Sub64", "math/bits.Add64"], apart := false }
def FnDoubleIsSumSaid : Prop := fnDoubleIsSumRow.holds Try.pinned (OpenSpec.ofChange fnDoubleIsSumSpec)

/-- ITS FALSE NEIGHBOUR: 'it returns false'. Refute it at one input. -/
def fnDoubleIsSumWrong : ChangeSpec := { name := "fnDoubleIsSum", fn := fun _ => fun
  | [d] => { results := [.lit (.bool false)], args := [d] }
  | _ => none }
def FnDoubleIsSumWrongFalsely : Prop := fnDoubleIsSumRow.holds Try.pinned (OpenSpec.ofChange fnDoubleIsSumWrong)

/- THE SECOND FORM. 'bulk': how many values and letters a reading holds, each counted each time it is reached (what is shared counts as often as it is met; a slice's spare places count too). A statement '..UptoSaid' is the law's where the arguments, and the package variables that the reading takes, are together of bulk at most 1048576: NARROWER than '..Said'. Prove '..Said' where nothing that the law and all that it calls make is longer than what came in: it says more and counts as full. Else prove '..UptoSaid'. A law counts once. -/
mutual
def uptoBulk {H : Type} : DataW H → Nat
  | .lit (.string bytes) => bytes.length + 1
  | .lit _ => 1
  | .nil => 1
  | .ptr d => uptoBulk d + 1
  | .slice elems spare => uptoBulkAll elems + uptoBulkAll spare + 1
  | .agg parts => uptoBulkAll parts + 1
  | .iface _ d => uptoBulk d + 1
  | .map entries => uptoBulkEntries entries + 1
  | .held _ => 1
def uptoBulkAll {H : Type} : List (DataW H) → Nat
  | [] => 0
  | d :: r => uptoBulk d + uptoBulkAll r
def uptoBulkEntries {H : Type} : List (Lit × DataW H) → Nat
  | [] => 0
  | x :: r => uptoBulkEntry x + uptoBulkEntries r
def uptoBulkEntry {H : Type} : Lit × DataW H → Nat
  | (.string bytes, d) => bytes.length + uptoBulk d + 1
  | (_, d) => uptoBulk d + 1
 end
def uptoSmall : (H : Type) → List (DataW H) → Bool := fun _ ds => decide (uptoBulkAll ds ≤ 1048576)
def OpenSpec.upto (s : _root_.Go.ChangeSpec) : _root_.Go.OpenSpec := { _root_.Go.OpenSpec.ofChange s with cond := some uptoSmall }

/-- 'laws.FnFirst', WHERE WHAT IT READS IS OF BULK AT MOST 1048576: true; the input reads as it did. -/
def fnFirstUptoRow : OpenClaim := { program := "ytmepgkcijeobkaa", sum := "9f30b23046a80c8857aad71e04dca83c761fcf342117b4c82e6c2f63c0eaa35a", func := "loop.example/pub-g03238/laws.FnFirst", spec := "fnFirst", inPlace := ["math/bits.Sub64", "math/bits.Add64"], apart := false, narrowed := true }
def FnFirstUptoSaid : Prop := fnFirstUptoRow.holds Try.pinned (OpenSpec.upto fnFirstSpec)

/-- 'laws.FnSharedSide', WHERE WHAT IT READS IS OF BULK AT MOST 1048576: true; the input reads as it did. -/
def fnSharedSideUptoRow : OpenClaim := { program := "ytmepgkcijeobkaa", sum := "9f30b23046a80c8857aad71e04dca83c761fcf342117b4c82e6c2f63c0eaa35a", func := "loop.example/pub-g03238/laws.FnSharedSide", spec := "fnSharedSide", inPlace := ["math/bits.Sub64", "math/bits.Add64"], apart := false, narrowed := true }
def FnSharedSideUptoSaid : Prop := fnSharedSideUptoRow.holds Try.pinned (OpenSpec.upto fnSharedSideSpec)

/-- 'laws.FnKept', WHERE WHAT IT READS IS OF BULK AT MOST 1048576: true; the input reads as it did. -/
def fnKeptUptoRow : OpenClaim := { program := "ytmepgkcijeobkaa", sum := "9f30b23046a80c8857aad71e04dca83c761fcf342117b4c82e6c2f63c0eaa35a", func := "loop.example/pub-g03238/laws.FnKept", spec := "fnKept", inPlace := ["math/bits.Sub64", "math/bits.Add64"], apart := false, narrowed := true }
def FnKeptUptoSaid : Prop := fnKeptUptoRow.holds Try.pinned (OpenSpec.upto fnKeptSpec)

/-- 'laws.FnNegate', WHERE WHAT IT READS IS OF BULK AT MOST 1048576: true; the input reads as it did. -/
def fnNegateUptoRow : OpenClaim := { program := "ytmepgkcijeobkaa", sum := "9f30b23046a80c8857aad71e04dca83c761fcf342117b4c82e6c2f63c0eaa35a", func := "loop.example/pub-g03238/laws.FnNegate", spec := "fnNegate", inPlace := ["math/bits.Sub64", "math/bits.Add64"], apart := false, narrowed := true }
def FnNegateUptoSaid : Prop := fnNegateUptoRow.holds Try.pinned (OpenSpec.upto fnNegateSpec)

/-- 'laws.FnProjMult', WHERE WHAT IT READS IS OF BULK AT MOST 1048576: true; the input reads as it did. -/
def fnProjMultUptoRow : OpenClaim := { program := "ytmepgkcijeobkaa", sum := "9f30b23046a80c8857aad71e04dca83c761fcf342117b4c82e6c2f63c0eaa35a", func := "loop.example/pub-g03238/laws.FnProjMult", spec := "fnProjMult", inPlace := ["math/bits.Sub64", "math/bits.Add64"], apart := false, narrowed := true }
def FnProjMultUptoSaid : Prop := fnProjMultUptoRow.holds Try.pinned (OpenSpec.upto fnProjMultSpec)

/-- 'laws.FnSelect', WHERE WHAT IT READS IS OF BULK AT MOST 1048576: true; the input reads as it did. -/
def fnSelectUptoRow : OpenClaim := { program := "ytmepgkcijeobkaa", sum := "9f30b23046a80c8857aad71e04dca83c761fcf342117b4c82e6c2f63c0eaa35a", func := "loop.example/pub-g03238/laws.FnSelect", spec := "fnSelect", inPlace := ["math/bits.Sub64", "math/bits.Add64"], apart := false, narrowed := true }
def FnSelectUptoSaid : Prop := fnSelectUptoRow.holds Try.pinned (OpenSpec.upto fnSelectSpec)

/-- 'laws.FnParse', WHERE WHAT IT READS IS OF BULK AT MOST 1048576: true; the input reads as it did. -/
def fnParseUptoRow : OpenClaim := { program := "ytmepgkcijeobkaa", sum := "9f30b23046a80c8857aad71e04dca83c761fcf342117b4c82e6c2f63c0eaa35a", func := "loop.example/pub-g03238/laws.FnParse", spec := "fnParse", inPlace := ["math/bits.Sub64", "math/bits.Add64"], apart := false, narrowed := true }
def FnParseUptoSaid : Prop := fnParseUptoRow.holds Try.pinned (OpenSpec.upto fnParseSpec)

/-- 'laws.FnShortBack', WHERE WHAT IT READS IS OF BULK AT MOST 1048576: true; the input reads as it did. -/
def fnShortBackUptoRow : OpenClaim := { program := "ytmepgkcijeobkaa", sum := "9f30b23046a80c8857aad71e04dca83c761fcf342117b4c82e6c2f63c0eaa35a", func := "loop.example/pub-g03238/laws.FnShortBack", spec := "fnShortBack", inPlace := ["math/bits.Sub64", "math/bits.Add64"], apart := false, narrowed := true }
def FnShortBackUptoSaid : Prop := fnShortBackUptoRow.holds Try.pinned (OpenSpec.upto fnShortBackSpec)

/-- 'laws.FnDouble', WHERE WHAT IT READS IS OF BULK AT MOST 1048576: true; the input reads as it did. -/
def fnDoubleUptoRow : OpenClaim := { program := "ytmepgkcijeobkaa", sum := "9f30b23046a80c8857aad71e04dca83c761fcf342117b4c82e6c2f63c0eaa35a", func := "loop.example/pub-g03238/laws.FnDouble", spec := "fnDouble", inPlace := ["math/bits.Sub64", "math/bits.Add64"], apart := false, narrowed := true }
def FnDoubleUptoSaid : Prop := fnDoubleUptoRow.holds Try.pinned (OpenSpec.upto fnDoubleSpec)

/-- 'laws.FnSet', WHERE WHAT IT READS IS OF BULK AT MOST 1048576: true; the input reads as it did. -/
def fnSetUptoRow : OpenClaim := { program := "ytmepgkcijeobkaa", sum := "9f30b23046a80c8857aad71e04dca83c761fcf342117b4c82e6c2f63c0eaa35a", func := "loop.example/pub-g03238/laws.FnSet", spec := "fnSet", inPlace := ["math/bits.Sub64", "math/bits.Add64"], apart := false, narrowed := true }
def FnSetUptoSaid : Prop := fnSetUptoRow.holds Try.pinned (OpenSpec.upto fnSetSpec)

/-- 'laws.FnAddAffine', WHERE WHAT IT READS IS OF BULK AT MOST 1048576: true; the input reads as it did. -/
def fnAddAffineUptoRow : OpenClaim := { program := "ytmepgkcijeobkaa", sum := "9f30b23046a80c8857aad71e04dca83c761fcf342117b4c82e6c2f63c0eaa35a", func := "loop.example/pub-g03238/laws.FnAddAffine", spec := "fnAddAffine", inPlace := ["math/bits.Sub64", "math/bits.Add64"], apart := false, narrowed := true }
def FnAddAffineUptoSaid : Prop := fnAddAffineUptoRow.holds Try.pinned (OpenSpec.upto fnAddAffineSpec)

/-- 'laws.FnAdd', WHERE WHAT IT READS IS OF BULK AT MOST 1048576: true; the input reads as it did. -/
def fnAddUptoRow : OpenClaim := { program := "ytmepgkcijeobkaa", sum := "9f30b23046a80c8857aad71e04dca83c761fcf342117b4c82e6c2f63c0eaa35a", func := "loop.example/pub-g03238/laws.FnAdd", spec := "fnAdd", inPlace := ["math/bits.Sub64", "math/bits.Add64"], apart := false, narrowed := true }
def FnAddUptoSaid : Prop := fnAddUptoRow.holds Try.pinned (OpenSpec.upto fnAddSpec)

/-- 'laws.FnAssociates', WHERE WHAT IT READS IS OF BULK AT MOST 1048576: true; the input reads as it did. -/
def fnAssociatesUptoRow : OpenClaim := { program := "ytmepgkcijeobkaa", sum := "9f30b23046a80c8857aad71e04dca83c761fcf342117b4c82e6c2f63c0eaa35a", func := "loop.example/pub-g03238/laws.FnAssociates", spec := "fnAssociates", inPlace := ["math/bits.Sub64", "math/bits.Add64"], apart := false, narrowed := true }
def FnAssociatesUptoSaid : Prop := fnAssociatesUptoRow.holds Try.pinned (OpenSpec.upto fnAssociatesSpec)

/-- 'laws.FnCommutes', WHERE WHAT IT READS IS OF BULK AT MOST 1048576: true; the input reads as it did. -/
def fnCommutesUptoRow : OpenClaim := { program := "ytmepgkcijeobkaa", sum := "9f30b23046a80c8857aad71e04dca83c761fcf342117b4c82e6c2f63c0eaa35a", func := "loop.example/pub-g03238/laws.FnCommutes", spec := "fnCommutes", inPlace := ["math/bits.Sub64", "math/bits.Add64"], apart := false, narrowed := true }
def FnCommutesUptoSaid : Prop := fnCommutesUptoRow.holds Try.pinned (OpenSpec.upto fnCommutesSpec)

/-- 'laws.FnOnCurve', WHERE WHAT IT READS IS OF BULK AT MOST 1048576: true; the input reads as it did. -/
def fnOnCurveUptoRow : OpenClaim := { program := "ytmepgkcijeobkaa", sum := "9f30b23046a80c8857aad71e04dca83c761fcf342117b4c82e6c2f63c0eaa35a", func := "loop.example/pub-g03238/laws.FnOnCurve", spec := "fnOnCurve", inPlace := ["math/bits.Sub64", "math/bits.Add64"], apart := false, narrowed := true }
def FnOnCurveUptoSaid : Prop := fnOnCurveUptoRow.holds Try.pinned (OpenSpec.upto fnOnCurveSpec)

/-- 'laws.FnOpposite', WHERE WHAT IT READS IS OF BULK AT MOST 1048576: true; the input reads as it did. -/
def fnOppositeUptoRow : OpenClaim := { program := "ytmepgkcijeobkaa", sum := "9f30b23046a80c8857aad71e04dca83c761fcf342117b4c82e6c2f63c0eaa35a", func := "loop.example/pub-g03238/laws.FnOpposite", spec := "fnOpposite", inPlace := ["math/bits.Sub64", "math/bits.Add64"], apart := false, narrowed := true }
def FnOppositeUptoSaid : Prop := fnOppositeUptoRow.holds Try.pinned (OpenSpec.upto fnOppositeSpec)

/-- 'laws.FnNeutral', WHERE WHAT IT READS IS OF BULK AT MOST 1048576: true; the input reads as it did. -/
def fnNeutralUptoRow : OpenClaim := { program := "ytmepgkcijeobkaa", sum := "9f30b23046a80c8857aad71e04dca83c761fcf342117b4c82e6c2f63c0eaa35a", func := "loop.example/pub-g03238/laws.FnNeutral", spec := "fnNeutral", inPlace := ["math/bits.Add64", "math/bits.Sub64"], apart := false, narrowed := true }
def FnNeutralUptoSaid : Prop := fnNeutralUptoRow.holds Try.pinned (OpenSpec.upto fnNeutralSpec)

/-- 'laws.FnAddInto', WHERE WHAT IT READS IS OF BULK AT MOST 1048576: true; the input reads as it did. -/
def fnAddIntoUptoRow : OpenClaim := { program := "ytmepgkcijeobkaa", sum := "9f30b23046a80c8857aad71e04dca83c761fcf342117b4c82e6c2f63c0eaa35a", func := "loop.example/pub-g03238/laws.FnAddInto", spec := "fnAddInto", inPlace := ["math/bits.Sub64", "math/bits.Add64"], apart := false, narrowed := true }
def FnAddIntoUptoSaid : Prop := fnAddIntoUptoRow.holds Try.pinned (OpenSpec.upto fnAddIntoSpec)

/-- 'laws.FnDoubleIsSum', WHERE WHAT IT READS IS OF BULK AT MOST 1048576: true; the input reads as it did. -/
def fnDoubleIsSumUptoRow : OpenClaim := { program := "ytmepgkcijeobkaa", sum := "9f30b23046a80c8857aad71e04dca83c761fcf342117b4c82e6c2f63c0eaa35a", func := "loop.example/pub-g03238/laws.FnDoubleIsSum", spec := "fnDoubleIsSum", inPlace := ["math/bits.Sub64", "math/bits.Add64"], apart := false, narrowed := true }
def FnDoubleIsSumUptoSaid : Prop := fnDoubleIsSumUptoRow.holds Try.pinned (OpenSpec.upto fnDoubleIsSumSpec)

end Rows
end Go.Proofs.Ytmepgkcijeobkaa
