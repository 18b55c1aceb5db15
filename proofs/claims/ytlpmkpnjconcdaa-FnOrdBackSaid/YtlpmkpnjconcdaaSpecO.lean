/-
  What is proved here: what the reference's functions on four words, and its doubling modulo the order, return.
  Conditions: those of each theorem.
-/
import Derived.Test.YtlpmkpnjconcdaaRows
import Derived.Test.YtlpmkpnjconcdaaSpecB
import Derived.Test.YtlpmkpnjconcdaaMem
import Derived.WalkKit
import Derived.WalkSpells
import Derived.Outline
import Derived.Handy
import Derived.ProofKit
import Derived.OpenShut
import Derived.LoopTactic
import Derived.Deep.QuietTactic
import Derived.BigQuiet
import Derived.Lib.Hide
namespace Go.Proofs.Ytlpmkpnjconcdaa
open Go.RowKit
set_option linter.unusedSimpArgs false
set_option linter.unusedVariables false

theorem half_lo (x : Int) (h0 : 0 ≤ x) (h1 : x < 18446744073709551616) : wrap64 (bits .and .u64 x 4294967295) = x % 4294967296 := by
  rw [u64_and x 4294967295 h0 h1 (by decide) (by decide)]
  have e : (x.toNat &&& (4294967295 : Int).toNat : Nat) = x.toNat % 4294967296 := by
    rw [show (4294967295 : Int).toNat = 2 ^ 32 - 1 from rfl, Nat.and_two_pow_sub_one_eq_mod]
  rw [e]
  unfold wrap64; omega
theorem half_hi (x : Int) (h0 : 0 ≤ x) (h1 : x < 18446744073709551616) : wrap64 (bits .and .u64 (x / 4294967296) 4294967295) = x / 4294967296 := by
  rw [half_lo (x / 4294967296) (by omega) (by omega)]
  omega
set_option maxHeartbeats 4000000 in
set_option maxRecDepth 100000 in
theorem OfLimbs_any (a : Int) (ha0 : 0 ≤ a) (ha : a < R256) (w : World) :
    Calls Try.prog 11 #[L4 a] w fun e w' => e = .returned (E8 a) ∧ Ext w w' := by
  obtain ⟨d0, d1, d2, d3, hd, he, ⟨p0, q0⟩, ⟨p1, q1⟩, ⟨p2, q2⟩, ⟨p3, q3⟩⟩ := L4_open a
  have hv : qal [d0, d1, d2, d3] = a := by rw [← hd, qal_L4 ha0 ha]
  rw [he]
  have H1 := Lib.hid hv
  clear hd he hv
  go_enter Try.func11, Try.ntmps11
  go_wp2
  refine wp_loop_rounds 9 ?_
  iterate 9 (rw [rounds_succ]; go_wp2)
  refine bodyPost_ret (v := ?v3) (by simp [results, Try.results11, go_sem]; rfl) rfl ⟨?_, ?_⟩
  · have h1 := digs_val [d0 % 4294967296, d0 / 4294967296, d1 % 4294967296, d1 / 4294967296, d2 % 4294967296, d2 / 4294967296, d3 % 4294967296, d3 / 4294967296] (by
      intro x hx
      simp only [List.mem_cons, List.not_mem_nil, or_false] at hx
      rcases hx with rfl | rfl | rfl | rfl | rfl | rfl | rfl | rfl <;> omega)
    have h2 : val [d0 % 4294967296, d0 / 4294967296, d1 % 4294967296, d1 / 4294967296, d2 % 4294967296, d2 / 4294967296, d3 % 4294967296, d3 / 4294967296] = a := by
      rw [← H1.out]; simp only [qal, val]; omega
    rw [h2] at h1
    have h3 : digs 8 a = _ := h1
    rw [E8, h3]
    simp only [half_lo d0 p0 q0, half_hi d0 p0 q0, half_lo d1 p1 q1, half_hi d1 p1 q1, half_lo d2 p2 q2, half_hi d2 p2 q2, half_lo d3 p3 q3, half_hi d3 p3 q3]
    rfl
  · (refine Ext.of_below ?_; (repeat (first | exact Below.refl _ _ | refine below_drewN' ?_ _ | refine below_ext ?_ (by simp <;> omega) _ | apply Below.drew | refine Below.setCell ?_ (by simp <;> omega) _ | refine Below.alloc ?_ (by simp <;> omega) _)))
end Go.Proofs.Ytlpmkpnjconcdaa
