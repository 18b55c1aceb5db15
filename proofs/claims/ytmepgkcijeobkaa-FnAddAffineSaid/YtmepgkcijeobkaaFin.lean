/-
  What is proved here: facts on the whole program that each statement's row asks for.
  Conditions: none.
-/
import Derived.Test.YtmepgkcijeobkaaProg
import Derived.JoinedOf
import Derived.ProofKit
namespace Go.Proofs.Ytmepgkcijeobkaa
open Go
set_option linter.unusedVariables false
def iL : List Nat := [104, 97, 114, 110, 101, 115, 115, 32, 100, 54, 99, 57, 97, 53, 49, 99, 101, 48, 102, 57, 48, 49, 48, 99, 52, 97, 98, 51, 98, 98, 98, 54, 51, 50, 100, 55, 49, 52, 101, 50, 99, 51, 55, 51, 97, 48, 100, 55, 50, 52, 50, 50, 97, 55, 54, 99, 97, 100, 52, 56, 97, 57, 52, 50, 57, 101, 51, 49, 57, 49, 49, 98, 32, 99, 117, 116, 32, 97, 116, 32, 108, 111, 111, 112, 46, 101, 120, 97, 109, 112, 108, 101, 47, 112, 117, 98, 45, 103, 48, 51, 50, 51, 56, 47, 108, 97, 119, 115, 46, 70, 110, 70, 105, 114, 115, 116, 32, 108, 111, 111, 112, 46, 101, 120, 97, 109, 112, 108, 101, 47, 112, 117, 98, 45, 103, 48, 51, 50, 51, 56, 47, 108, 97, 119, 115, 46, 70, 110, 83, 104, 97, 114, 101, 100, 83, 105, 100, 101, 32, 108, 111, 111, 112, 46, 101, 120, 97, 109, 112, 108, 101, 47, 112, 117, 98, 45, 103, 48, 51, 50, 51, 56, 47, 108, 97, 119, 115, 46, 70, 110, 75, 101, 112, 116, 32, 108, 111, 111, 112, 46, 101, 120, 97, 109, 112, 108, 101, 47, 112, 117, 98, 45, 103, 48, 51, 50, 51, 56, 47, 108, 97, 119, 115, 46, 70, 110, 78, 101, 103, 97, 116, 101, 32, 108, 111, 111, 112, 46, 101, 120, 97, 109, 112, 108, 101, 47, 112, 117, 98, 45, 103, 48, 51, 50, 51, 56, 47, 108, 97, 119, 115, 46, 70, 110, 80, 114, 111, 106, 77, 117, 108, 116, 32, 108, 111, 111, 112, 46, 101, 120, 97, 109, 112, 108, 101, 47, 112, 117, 98, 45, 103, 48, 51, 50, 51, 56, 47, 108, 97, 119, 115, 46, 70, 110, 83, 101, 108, 101, 99, 116, 32, 108, 111, 111, 112, 46, 101, 120, 97, 109, 112, 108, 101, 47, 112, 117, 98, 45, 103, 48, 51, 50, 51, 56, 47, 108, 97, 119, 115, 46, 70, 110, 80, 97, 114, 115, 101, 32, 108, 111, 111, 112, 46, 101, 120, 97, 109, 112, 108, 101, 47, 112, 117, 98, 45, 103, 48, 51, 50, 51, 56, 47, 108, 97, 119, 115, 46, 70, 110, 83, 104, 111, 114, 116, 66, 97, 99, 107, 32, 108, 111, 111, 112, 46, 101, 120, 97, 109, 112, 108, 101, 47, 112, 117, 98, 45, 103, 48, 51, 50, 51, 56, 47, 108, 97, 119, 115, 46, 70, 110, 68, 111, 117, 98, 108, 101, 32, 108, 111, 111, 112, 46, 101, 120, 97, 109, 112, 108, 101, 47, 112, 117, 98, 45, 103, 48, 51, 50, 51, 56, 47, 108, 97, 119, 115, 46, 70, 110, 83, 101, 116, 32, 108, 111, 111, 112, 46, 101, 120, 97, 109, 112, 108, 101, 47, 112, 117, 98, 45, 103, 48, 51, 50, 51, 56, 47, 108, 97, 119, 115, 46, 70, 110, 65, 100, 100, 65, 102, 102, 105, 110, 101, 32, 108, 111, 111, 112, 46, 101, 120, 97, 109, 112, 108, 101, 47, 112, 117, 98, 45, 103, 48, 51, 50, 51, 56, 47, 108, 97, 119, 115, 46, 70, 110, 65, 100, 100, 32, 108, 111, 111, 112, 46, 101, 120, 97, 109, 112, 108, 101, 47, 112, 117, 98, 45, 103, 48, 51, 50, 51, 56, 47, 108, 97, 119, 115, 46, 70, 110, 65, 115, 115, 111, 99, 105, 97, 116, 101, 115, 32, 108, 111, 111, 112, 46, 101, 120, 97, 109, 112, 108, 101, 47, 112, 117, 98, 45, 103, 48, 51, 50, 51, 56, 47, 108, 97, 119, 115, 46, 70, 110, 67, 111, 109, 109, 117, 116, 101, 115, 32, 108, 111, 111, 112, 46, 101, 120, 97, 109, 112, 108, 101, 47, 112, 117, 98, 45, 103, 48, 51, 50, 51, 56, 47, 108, 97, 119, 115, 46, 70, 110, 79, 110, 67, 117, 114, 118, 101, 32, 108, 111, 111, 112, 46, 101, 120, 97, 109, 112, 108, 101, 47, 112, 117, 98, 45, 103, 48, 51, 50, 51, 56, 47, 108, 97, 119, 115, 46, 70, 110, 79, 112, 112, 111, 115, 105, 116, 101, 32, 108, 111, 111, 112, 46, 101, 120, 97, 109, 112, 108, 101, 47, 112, 117, 98, 45, 103, 48, 51, 50, 51, 56, 47, 108, 97, 119, 115, 46, 70, 110, 78, 101, 117, 116, 114, 97, 108, 32, 108, 111, 111, 112, 46, 101, 120, 97, 109, 112, 108, 101, 47, 112, 117, 98, 45, 103, 48, 51, 50, 51, 56, 47, 108, 97, 119, 115, 46, 70, 110, 65, 100, 100, 73, 110, 116, 111, 32, 108, 111, 111, 112, 46, 101, 120, 97, 109, 112, 108, 101, 47, 112, 117, 98, 45, 103, 48, 51, 50, 51, 56, 47, 108, 97, 119, 115, 46, 70, 110, 68, 111, 117, 98, 108, 101, 73, 115, 83, 117, 109]
theorem initS : Try.prog.initOrder = String.ofList (iL.map Char.ofNat) := by kernel_rfl
theorem initL : Try.prog.initOrder.toList = iL.map Char.ofNat := by rw [initS, String.toList_ofList]
theorem initH : (behindMainWord (wordsSigns Try.prog.initOrder.toList)).head? = some [Char.ofNat 99, Char.ofNat 117, Char.ofNat 116] := by rw [initL]; kernel_rfl
theorem initR : ∃ r, behindMainWord (wordsSigns Try.prog.initOrder.toList) = [Char.ofNat 99, Char.ofNat 117, Char.ofNat 116] :: r := by
  have h := initH
  generalize behindMainWord (wordsSigns Try.prog.initOrder.toList) = l at h ⊢
  cases l with
  | nil => cases h
  | cons a r => injection h with h; exact ⟨r, by rw [h]⟩
theorem l_gc : ("gc" : String).toList = [Char.ofNat 103, Char.ofNat 99] := by decide +kernel
theorem l_cut : ("cut" : String).toList = [Char.ofNat 99, Char.ofNat 117, Char.ofNat 116] := by decide +kernel
theorem l_spec : ("spec" : String).toList = [Char.ofNat 115, Char.ofNat 112, Char.ofNat 101, Char.ofNat 99] := by decide +kernel
theorem l_car : ("carried" : String).toList = [Char.ofNat 99, Char.ofNat 97, Char.ofNat 114, Char.ofNat 114, Char.ofNat 105, Char.ofNat 101, Char.ofNat 100] := by decide +kernel
theorem make_of (P : Program) (r : List (List Char)) (h : behindMainWord (wordsSigns P.initOrder.toList) = [Char.ofNat 99, Char.ofNat 117, Char.ofNat 116] :: r) : P.make = some .cut := by
  unfold Program.make
  rw [h]
  simp only [l_gc, l_cut, l_spec]
  have e0 : ([Char.ofNat 99, Char.ofNat 117, Char.ofNat 116] == [Char.ofNat 103, Char.ofNat 99]) = false := by decide +kernel
  have e1 : ([Char.ofNat 99, Char.ofNat 117, Char.ofNat 116] == [Char.ofNat 115, Char.ofNat 112, Char.ofNat 101, Char.ofNat 99]) = false := by decide +kernel
  have e2 : ([Char.ofNat 99, Char.ofNat 117, Char.ofNat 116] == [Char.ofNat 99, Char.ofNat 117, Char.ofNat 116]) = true := by decide +kernel
  rw [e0, e1, e2]
  rfl
theorem strip_of (r : List (List Char)) : stripLifts liftWords ([Char.ofNat 99, Char.ofNat 117, Char.ofNat 116] :: r) = ([], [Char.ofNat 99, Char.ofNat 117, Char.ofNat 116] :: r) := by kernel_rfl
theorem may_of (P : Program) (r : List (List Char)) (h : behindMainWord (wordsSigns P.initOrder.toList) = [Char.ofNat 99, Char.ofNat 117, Char.ofNat 116] :: r) (h1 : P.laysLater = false) (h2 : P.bearsReflect = false) (h3 : P.doorFits [] = true) : P.mayEnter = true := by
  unfold Program.mayEnter
  rw [h]
  simp only [strip_of, h1, h2, h3, l_gc, l_cut, l_spec, l_car]
  have e0 : ([Char.ofNat 99, Char.ofNat 117, Char.ofNat 116] == [Char.ofNat 103, Char.ofNat 99]) = false := by decide +kernel
  have e1 : ([Char.ofNat 99, Char.ofNat 117, Char.ofNat 116] == [Char.ofNat 115, Char.ofNat 112, Char.ofNat 101, Char.ofNat 99]) = false := by decide +kernel
  have e2 : ([Char.ofNat 99, Char.ofNat 117, Char.ofNat 116] == [Char.ofNat 99, Char.ofNat 97, Char.ofNat 114, Char.ofNat 114, Char.ofNat 105, Char.ofNat 101, Char.ofNat 100]) = false := by decide +kernel
  rw [e0, e1, e2]
  simp
theorem lift_of (P : Program) (r : List (List Char)) (h : behindMainWord (wordsSigns P.initOrder.toList) = [Char.ofNat 99, Char.ofNat 117, Char.ofNat 116] :: r) : P.liftsFinal = false := by
  unfold Program.liftsFinal Program.headLifts
  rw [h]
  simp only [strip_of, l_cut, l_car]
  simp
theorem mayE : Try.prog.mayEnter = true := by
  obtain ⟨r, h⟩ := initR
  exact may_of _ r h (by decide +kernel) (by decide +kernel) (by decide +kernel)
theorem liftF : Try.prog.liftsFinal = false := by
  obtain ⟨r, h⟩ := initR
  exact lift_of _ r h
theorem makeT : Try.prog.make = some .cut := by
  obtain ⟨r, h⟩ := initR
  exact make_of _ r h
/-- The rest of a row's facts. -/
def restF (P : Program) (f : FuncId) (fn : Func) (s : ChangeSpec) (c : OpenClaim) : {b : Bool // P.mayEnter = true → P.liftsFinal = false → P.make = some .cut → b = joinedFacts P f fn s c} := by
  refine ⟨?b, ?_⟩
  rotate_left
  · intro h1 h2 h3
    unfold joinedFacts
    rw [h1, h2, h3]
theorem closed_of {f : FuncId} {fn : Func} {s : ChangeSpec} {c : OpenClaim} (h : (restF Try.prog f fn s c).1 = true) : joinedFacts Try.prog f fn s c = true := ((restF Try.prog f fn s c).2 mayE liftF makeT).symm.trans h
end Go.Proofs.Ytmepgkcijeobkaa
