/-
  What is proved here: what the reference's functions on the field return.
  Conditions: those of each theorem.
-/
import Derived.Test.YtnjjelepcnofjaaProg
import Derived.Test.YtnjjelepcnofjaaNumF
import Derived.BigRegion
import Derived.WalkKit
import Derived.WalkSpells
import Derived.Outline
import Derived.Handy
import Derived.ProofKit
import Derived.Deep.QuietTactic
import Derived.BigQuiet
import Derived.Lib.Hide
import Derived.OpenShut
namespace Go.Proofs.Ytnjjelepcnofjaa
open Go Go.RowKit Ecp
set_option linter.unusedSimpArgs false
set_option linter.unusedVariables false

set_option maxRecDepth 100000 in
theorem folded_8 (b : Nat) (x1 x2 x5 x8 t : Int) (w : World) (h1 : w.cell? ⟨b, 7, none⟩ = some (.int .i64 x1)) (h2 : w.cell? ⟨b, 6, none⟩ = some (.int .i64 x2)) (h5 : w.cell? ⟨b, 3, none⟩ = some (.int .i64 x5)) (h8 : w.cell? ⟨b, 0, none⟩ = some (.int .i64 x8)) (hf : ∀ o, w.frozen? ⟨b, o, none⟩ = false) :
    Calls Try.prog 34 #[.pointer (some ⟨b, 0, none⟩), .int .i64 8, .int .i64 t] w fun e w' => e = .returned (.tuple #[]) ∧ ∃ n, w' = ((((w.setCell ⟨b, 7, none⟩ (.int .i64 (wrap64 (x1 + t)))).setCell ⟨b, 6, none⟩ (.int .i64 (wrap64 (x2 - t)))).setCell ⟨b, 3, none⟩ (.int .i64 (wrap64 (x5 - t)))).setCell ⟨b, 0, none⟩ (.int .i64 (wrap64 (x8 + t)))).drewN n := by
  go_enter Try.func34, Try.ntmps34
  go_wp2_with (go_region)
  exact bodyPost_end (results_none rfl _ _ _) rfl ⟨rfl, 4, rfl⟩
set_option maxRecDepth 100000 in
theorem folded_9 (b : Nat) (x1 x2 x5 x8 t : Int) (w : World) (h1 : w.cell? ⟨b, 8, none⟩ = some (.int .i64 x1)) (h2 : w.cell? ⟨b, 7, none⟩ = some (.int .i64 x2)) (h5 : w.cell? ⟨b, 4, none⟩ = some (.int .i64 x5)) (h8 : w.cell? ⟨b, 1, none⟩ = some (.int .i64 x8)) (hf : ∀ o, w.frozen? ⟨b, o, none⟩ = false) :
    Calls Try.prog 34 #[.pointer (some ⟨b, 0, none⟩), .int .i64 9, .int .i64 t] w fun e w' => e = .returned (.tuple #[]) ∧ ∃ n, w' = ((((w.setCell ⟨b, 8, none⟩ (.int .i64 (wrap64 (x1 + t)))).setCell ⟨b, 7, none⟩ (.int .i64 (wrap64 (x2 - t)))).setCell ⟨b, 4, none⟩ (.int .i64 (wrap64 (x5 - t)))).setCell ⟨b, 1, none⟩ (.int .i64 (wrap64 (x8 + t)))).drewN n := by
  go_enter Try.func34, Try.ntmps34
  go_wp2_with (go_region)
  exact bodyPost_end (results_none rfl _ _ _) rfl ⟨rfl, 4, rfl⟩
set_option maxRecDepth 100000 in
theorem folded_10 (b : Nat) (x1 x2 x5 x8 t : Int) (w : World) (h1 : w.cell? ⟨b, 9, none⟩ = some (.int .i64 x1)) (h2 : w.cell? ⟨b, 8, none⟩ = some (.int .i64 x2)) (h5 : w.cell? ⟨b, 5, none⟩ = some (.int .i64 x5)) (h8 : w.cell? ⟨b, 2, none⟩ = some (.int .i64 x8)) (hf : ∀ o, w.frozen? ⟨b, o, none⟩ = false) :
    Calls Try.prog 34 #[.pointer (some ⟨b, 0, none⟩), .int .i64 10, .int .i64 t] w fun e w' => e = .returned (.tuple #[]) ∧ ∃ n, w' = ((((w.setCell ⟨b, 9, none⟩ (.int .i64 (wrap64 (x1 + t)))).setCell ⟨b, 8, none⟩ (.int .i64 (wrap64 (x2 - t)))).setCell ⟨b, 5, none⟩ (.int .i64 (wrap64 (x5 - t)))).setCell ⟨b, 2, none⟩ (.int .i64 (wrap64 (x8 + t)))).drewN n := by
  go_enter Try.func34, Try.ntmps34
  go_wp2_with (go_region)
  exact bodyPost_end (results_none rfl _ _ _) rfl ⟨rfl, 4, rfl⟩
set_option maxRecDepth 100000 in
theorem folded_11 (b : Nat) (x1 x2 x5 x8 t : Int) (w : World) (h1 : w.cell? ⟨b, 10, none⟩ = some (.int .i64 x1)) (h2 : w.cell? ⟨b, 9, none⟩ = some (.int .i64 x2)) (h5 : w.cell? ⟨b, 6, none⟩ = some (.int .i64 x5)) (h8 : w.cell? ⟨b, 3, none⟩ = some (.int .i64 x8)) (hf : ∀ o, w.frozen? ⟨b, o, none⟩ = false) :
    Calls Try.prog 34 #[.pointer (some ⟨b, 0, none⟩), .int .i64 11, .int .i64 t] w fun e w' => e = .returned (.tuple #[]) ∧ ∃ n, w' = ((((w.setCell ⟨b, 10, none⟩ (.int .i64 (wrap64 (x1 + t)))).setCell ⟨b, 9, none⟩ (.int .i64 (wrap64 (x2 - t)))).setCell ⟨b, 6, none⟩ (.int .i64 (wrap64 (x5 - t)))).setCell ⟨b, 3, none⟩ (.int .i64 (wrap64 (x8 + t)))).drewN n := by
  go_enter Try.func34, Try.ntmps34
  go_wp2_with (go_region)
  exact bodyPost_end (results_none rfl _ _ _) rfl ⟨rfl, 4, rfl⟩
set_option maxRecDepth 100000 in
theorem folded_12 (b : Nat) (x1 x2 x5 x8 t : Int) (w : World) (h1 : w.cell? ⟨b, 11, none⟩ = some (.int .i64 x1)) (h2 : w.cell? ⟨b, 10, none⟩ = some (.int .i64 x2)) (h5 : w.cell? ⟨b, 7, none⟩ = some (.int .i64 x5)) (h8 : w.cell? ⟨b, 4, none⟩ = some (.int .i64 x8)) (hf : ∀ o, w.frozen? ⟨b, o, none⟩ = false) :
    Calls Try.prog 34 #[.pointer (some ⟨b, 0, none⟩), .int .i64 12, .int .i64 t] w fun e w' => e = .returned (.tuple #[]) ∧ ∃ n, w' = ((((w.setCell ⟨b, 11, none⟩ (.int .i64 (wrap64 (x1 + t)))).setCell ⟨b, 10, none⟩ (.int .i64 (wrap64 (x2 - t)))).setCell ⟨b, 7, none⟩ (.int .i64 (wrap64 (x5 - t)))).setCell ⟨b, 4, none⟩ (.int .i64 (wrap64 (x8 + t)))).drewN n := by
  go_enter Try.func34, Try.ntmps34
  go_wp2_with (go_region)
  exact bodyPost_end (results_none rfl _ _ _) rfl ⟨rfl, 4, rfl⟩
set_option maxRecDepth 100000 in
theorem folded_13 (b : Nat) (x1 x2 x5 x8 t : Int) (w : World) (h1 : w.cell? ⟨b, 12, none⟩ = some (.int .i64 x1)) (h2 : w.cell? ⟨b, 11, none⟩ = some (.int .i64 x2)) (h5 : w.cell? ⟨b, 8, none⟩ = some (.int .i64 x5)) (h8 : w.cell? ⟨b, 5, none⟩ = some (.int .i64 x8)) (hf : ∀ o, w.frozen? ⟨b, o, none⟩ = false) :
    Calls Try.prog 34 #[.pointer (some ⟨b, 0, none⟩), .int .i64 13, .int .i64 t] w fun e w' => e = .returned (.tuple #[]) ∧ ∃ n, w' = ((((w.setCell ⟨b, 12, none⟩ (.int .i64 (wrap64 (x1 + t)))).setCell ⟨b, 11, none⟩ (.int .i64 (wrap64 (x2 - t)))).setCell ⟨b, 8, none⟩ (.int .i64 (wrap64 (x5 - t)))).setCell ⟨b, 5, none⟩ (.int .i64 (wrap64 (x8 + t)))).drewN n := by
  go_enter Try.func34, Try.ntmps34
  go_wp2_with (go_region)
  exact bodyPost_end (results_none rfl _ _ _) rfl ⟨rfl, 4, rfl⟩
set_option maxRecDepth 100000 in
theorem folded_14 (b : Nat) (x1 x2 x5 x8 t : Int) (w : World) (h1 : w.cell? ⟨b, 13, none⟩ = some (.int .i64 x1)) (h2 : w.cell? ⟨b, 12, none⟩ = some (.int .i64 x2)) (h5 : w.cell? ⟨b, 9, none⟩ = some (.int .i64 x5)) (h8 : w.cell? ⟨b, 6, none⟩ = some (.int .i64 x8)) (hf : ∀ o, w.frozen? ⟨b, o, none⟩ = false) :
    Calls Try.prog 34 #[.pointer (some ⟨b, 0, none⟩), .int .i64 14, .int .i64 t] w fun e w' => e = .returned (.tuple #[]) ∧ ∃ n, w' = ((((w.setCell ⟨b, 13, none⟩ (.int .i64 (wrap64 (x1 + t)))).setCell ⟨b, 12, none⟩ (.int .i64 (wrap64 (x2 - t)))).setCell ⟨b, 9, none⟩ (.int .i64 (wrap64 (x5 - t)))).setCell ⟨b, 6, none⟩ (.int .i64 (wrap64 (x8 + t)))).drewN n := by
  go_enter Try.func34, Try.ntmps34
  go_wp2_with (go_region)
  exact bodyPost_end (results_none rfl _ _ _) rfl ⟨rfl, 4, rfl⟩
set_option maxRecDepth 100000 in
theorem folded_15 (b : Nat) (x1 x2 x5 x8 t : Int) (w : World) (h1 : w.cell? ⟨b, 14, none⟩ = some (.int .i64 x1)) (h2 : w.cell? ⟨b, 13, none⟩ = some (.int .i64 x2)) (h5 : w.cell? ⟨b, 10, none⟩ = some (.int .i64 x5)) (h8 : w.cell? ⟨b, 7, none⟩ = some (.int .i64 x8)) (hf : ∀ o, w.frozen? ⟨b, o, none⟩ = false) :
    Calls Try.prog 34 #[.pointer (some ⟨b, 0, none⟩), .int .i64 15, .int .i64 t] w fun e w' => e = .returned (.tuple #[]) ∧ ∃ n, w' = ((((w.setCell ⟨b, 14, none⟩ (.int .i64 (wrap64 (x1 + t)))).setCell ⟨b, 13, none⟩ (.int .i64 (wrap64 (x2 - t)))).setCell ⟨b, 10, none⟩ (.int .i64 (wrap64 (x5 - t)))).setCell ⟨b, 7, none⟩ (.int .i64 (wrap64 (x8 + t)))).drewN n := by
  go_enter Try.func34, Try.ntmps34
  go_wp2_with (go_region)
  exact bodyPost_end (results_none rfl _ _ _) rfl ⟨rfl, 4, rfl⟩
end Go.Proofs.Ytnjjelepcnofjaa
