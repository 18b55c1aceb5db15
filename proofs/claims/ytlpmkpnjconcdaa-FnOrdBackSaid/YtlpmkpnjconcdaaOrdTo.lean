/-
  What is proved here: what the package's way into Montgomery form, modulo the order, returns.
  Conditions: those of each theorem.
-/
import Derived.Test.YtlpmkpnjconcdaaRows
import Derived.Test.YtlpmkpnjconcdaaInst
import Derived.Test.YtlpmkpnjconcdaaEngD
import Derived.Test.YtlpmkpnjconcdaaArTo
import Derived.Test.YtlpmkpnjconcdaaOrdFrom
namespace Go.Proofs.Ytlpmkpnjconcdaa
open Go Go.RowKit
set_option linter.unusedSimpArgs false
set_option linter.unusedVariables false

set_option maxRecDepth 1000000 in
theorem run_to : ((Try.f20.body).bind fun c => (runC D0 2 4 c (init2 Try.f20.ntmps .u64 4)).map fun p => (p.1.n, p.1.defs, outs4 p.1)) =
    some (226, defs_to, (some (.u64, .v 216), some (.u64, .v 219), some (.u64, .v 222), some (.u64, .v 225))) := by kernel_rfl

theorem OrdTo_any (b0 o0 b1 o1 : Nat) (A : Int) (h0 : 0 ≤ A) (h1 : A < R256) (w : World) (hb0 : b0 < w.heap.size) (hb1 : b1 < w.heap.size) (hfree : Free w b0 o0 4) (hheld : Held .u64 w b1 o1 (qds 4 A)) :
    Calls Try.prog 20 #[.pointer (some ⟨b0, o0, none⟩), .pointer (some ⟨b1, o1, none⟩)] w fun e w' => e = .returned (.tuple #[]) ∧ Turned b0 o0 4 w w' ∧
      ∃ R : Int, 0 ≤ R ∧ R < ordN ∧ (∃ q : Int, R = A * R256 + q * ordN) ∧ Held .u64 w' b0 o0 (qds 4 R) := by
  obtain ⟨a0, a1, a2, a3, hq, _, ⟨p0, q0⟩, ⟨p1, q1⟩, ⟨p2, q2⟩, ⟨p3, q3⟩⟩ := L4_open A
  have hv : qal [a0, a1, a2, a3] = A := by rw [← hq, qal_L4 h0 h1]
  rw [hq] at hheld
  refine (eng2 S0 Try.func20 rfl rfl (by decide) outs4 _ run_to b0 o0 b1 o1 [a0, a1, a2, a3] rfl (by
    intro x hx
    simp only [List.mem_cons, List.not_mem_nil, or_false] at hx
    rcases hx with rfl | rfl | rfl | rfl <;> exact ⟨by assumption, by assumption⟩) w hb0 hb1 hfree hheld).mono ?_
  rintro e w' ⟨rfl, hT, ρ, hin, hbd, hdf, st', hout, hcell⟩
  obtain ⟨q, e1, e2, e3⟩ := arith_to ρ hbd hdf
  rw [hin 0 a0 rfl, hin 1 a1 rfl, hin 2 a2 rfl, hin 3 a3 rfl, ← qal4, ← qal4, hv] at e1
  rw [← qal4] at e2 e3
  simp only [outs4, Prod.mk.injEq] at hout
  refine ⟨rfl, hT, qal [ρ 216, ρ 219, ρ 222, ρ 225], e2, e3, to_plain _ _ q e1, ?_⟩
  have hd : qds 4 (qal [ρ 216, ρ 219, ρ 222, ρ 225]) = [ρ 216, ρ 219, ρ 222, ρ 225] := qds_qal [ρ 216, ρ 219, ρ 222, ρ 225] (by
    intro x hx
    simp only [List.mem_cons, List.not_mem_nil, or_false] at hx
    rcases hx with rfl | rfl | rfl | rfl <;> exact hbd _ (by decide))
  rw [hd]
  intro i x hi
  match i, hi with
  | 0, hi => obtain rfl := Option.some.inj hi; exact hcell 0 _ _ hout.1
  | 1, hi => obtain rfl := Option.some.inj hi; exact hcell 1 _ _ hout.2.1
  | 2, hi => obtain rfl := Option.some.inj hi; exact hcell 2 _ _ hout.2.2.1
  | 3, hi => obtain rfl := Option.some.inj hi; exact hcell 3 _ _ hout.2.2.2
end Go.Proofs.Ytlpmkpnjconcdaa
