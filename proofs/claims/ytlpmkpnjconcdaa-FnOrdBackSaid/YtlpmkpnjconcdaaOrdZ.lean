/-
  What is proved here: what the doors to the conversions modulo the order return.
  Conditions: those of each theorem.
-/
import Derived.Test.YtlpmkpnjconcdaaRows
import Derived.Test.YtlpmkpnjconcdaaOrdFrom
import Derived.Test.YtlpmkpnjconcdaaOrdTo
import Derived.WalkKit
import Derived.WalkSpells
import Derived.Outline
import Derived.Handy
import Derived.Lib.Hide
namespace Go.Proofs.Ytlpmkpnjconcdaa
open Go.RowKit
set_option linter.unusedSimpArgs false
set_option linter.unusedVariables false

set_option maxHeartbeats 2000000 in
set_option maxRecDepth 100000 in
theorem ZZOrdFromMontgomery_any (A : Int) (h0 : 0 ≤ A) (h1 : A < R256) (w : World) :
    Calls Try.prog 14 #[L4 A] w fun e w' => ∃ R : Int, e = .returned (L4 R) ∧ 0 ≤ R ∧ R < ordN ∧ (∃ q : Int, R * R256 = A + q * ordN) ∧ Ext w w' := by
  obtain ⟨a0, a1, a2, a3, ha, ea, _⟩ := L4_open A
  have HA := Lib.hid ha
  have HB := Lib.hid (And.intro h0 h1)
  rw [ea]
  clear ha ea h0 h1
  go_enter Try.func14, Try.ntmps14
  go_wp2_with (go_at_call 18; refine (OrdFrom_any (w.heap.size + 2) 0 (w.heap.size + 3) 0 A HB.out.1 HB.out.2 _ (by simp <;> omega) (by simp <;> omega) ?_ ?_).mono ?_; (· intro i hi; rcases (show i = 0 ∨ i = 1 ∨ i = 2 ∨ i = 3 by omega) with rfl | rfl | rfl | rfl <;> exact ⟨⟨.int .u64 0, by simp [go_sem]⟩, by simp [go_sem]⟩); (· rw [HA.out]; intro i x hi; match i, hi with | 0, hi => (obtain rfl := Option.some.inj hi; simp [go_sem]) | 1, hi => (obtain rfl := Option.some.inj hi; simp [go_sem]) | 2, hi => (obtain rfl := Option.some.inj hi; simp [go_sem]) | 3, hi => (obtain rfl := Option.some.inj hi; simp [go_sem])); rintro e w1 ⟨rfl, hT, R, hR0, hR1, hRq, hH⟩; obtain ⟨r0, r1, r2, r3, hq, er, _⟩ := L4_open R; have o0 : w1.cell? ⟨w.heap.size + 1, 0, none⟩ = some (.int .u64 0) := (hT.away.cell (by simp <;> omega) (by omega) 0).trans (by simp [go_sem]); have o1 : w1.cell? ⟨w.heap.size + 1, 1, none⟩ = some (.int .u64 0) := (hT.away.cell (by simp <;> omega) (by omega) 1).trans (by simp [go_sem]); have o2 : w1.cell? ⟨w.heap.size + 1, 2, none⟩ = some (.int .u64 0) := (hT.away.cell (by simp <;> omega) (by omega) 2).trans (by simp [go_sem]); have o3 : w1.cell? ⟨w.heap.size + 1, 3, none⟩ = some (.int .u64 0) := (hT.away.cell (by simp <;> omega) (by omega) 3).trans (by simp [go_sem]); have f0 : w1.frozen? ⟨w.heap.size + 1, 0, none⟩ = false := (hT.away.frozen (by simp <;> omega) (by omega) 0).trans (by simp [go_sem]); have f1 : w1.frozen? ⟨w.heap.size + 1, 1, none⟩ = false := (hT.away.frozen (by simp <;> omega) (by omega) 1).trans (by simp [go_sem]); have f2 : w1.frozen? ⟨w.heap.size + 1, 2, none⟩ = false := (hT.away.frozen (by simp <;> omega) (by omega) 2).trans (by simp [go_sem]); have f3 : w1.frozen? ⟨w.heap.size + 1, 3, none⟩ = false := (hT.away.frozen (by simp <;> omega) (by omega) 3).trans (by simp [go_sem]); have k0 : w1.cell? ⟨w.heap.size + 2, 0, none⟩ = some (.int .u64 r0) := hH 0 r0 (by rw [hq]; rfl); have k1 : w1.cell? ⟨w.heap.size + 2, 1, none⟩ = some (.int .u64 r1) := hH 1 r1 (by rw [hq]; rfl); have k2 : w1.cell? ⟨w.heap.size + 2, 2, none⟩ = some (.int .u64 r2) := hH 2 r2 (by rw [hq]; rfl); have k3 : w1.cell? ⟨w.heap.size + 2, 3, none⟩ = some (.int .u64 r3) := hH 3 r3 (by rw [hq]; rfl); have HF := Lib.hid (And.intro hT (And.intro hR0 (And.intro hR1 (And.intro hRq er)))); clear hT hR0 hR1 hRq hH hq er)
  refine bodyPost_ret (v := .agg #[.int .u64 r0, .int .u64 r1, .int .u64 r2, .int .u64 r3]) (by simp [results, Try.results14, go_sem, o0, o1, o2, o3]) rfl ⟨R, ?_, HF.out.2.1, HF.out.2.2.1, HF.out.2.2.2.1, ?_⟩
  · rw [HF.out.2.2.2.2]
  · refine Ext.of_below ?_
    have B0 : Below w.heap.size w w1 := by
      refine Below.trans ?_ (HF.out.1.away.below (by omega) (by simp <;> omega))
      (repeat (first | exact Below.refl _ _ | refine Below.setCell ?_ (by simp <;> omega) _ | refine Below.alloc ?_ (by simp <;> omega) _))
    repeat (first | (with_reducible exact B0) | (with_reducible refine Below.setCell ?_ (by simp <;> omega) _))

set_option maxHeartbeats 2000000 in
set_option maxRecDepth 100000 in
theorem OrdFromMontgomery_any (A : Int) (h0 : 0 ≤ A) (h1 : A < R256) (w : World) :
    Calls Try.prog 7 #[L4 A] w fun e w' => ∃ R : Int, e = .returned (L4 R) ∧ 0 ≤ R ∧ R < ordN ∧ (∃ q : Int, R * R256 = A + q * ordN) ∧ Ext w w' := by
  obtain ⟨a0, a1, a2, a3, ha, ea, _⟩ := L4_open A
  have c1 := fun w => ZZOrdFromMontgomery_any A h0 h1 w
  rw [ea] at c1 ⊢
  have C1 := Lib.hid c1
  clear c1 ha ea h0 h1
  go_enter Try.func7, Try.ntmps7
  go_wp2_with (go_at_call 14; (with_reducible refine (C1.out _).mono ?_); rintro e w' ⟨R, rfl, hR0, hR1, hRq, g1, rfl⟩; obtain ⟨r0, r1, r2, r3, hq, er, _⟩ := L4_open R; rw [er]; have HF := Lib.hid (And.intro hR0 (And.intro hR1 (And.intro hRq er))); clear hR0 hR1 hRq hq er)
  refine bodyPost_ret (v := .agg #[.int .u64 r0, .int .u64 r1, .int .u64 r2, .int .u64 r3]) (by simp [results, Try.results7, go_sem]) rfl ⟨R, ?_, HF.out.1, HF.out.2.1, HF.out.2.2.1, ?_⟩
  · rw [HF.out.2.2.2]
  · (refine Ext.of_below ?_; (repeat (first | exact Below.refl _ _ | refine below_drewN' ?_ _ | refine below_ext ?_ (by simp <;> omega) _ | apply Below.drew | refine Below.setCell ?_ (by simp <;> omega) _ | refine Below.alloc ?_ (by simp <;> omega) _)))

set_option maxHeartbeats 2000000 in
set_option maxRecDepth 100000 in
theorem ZZOrdToMontgomery_any (A : Int) (h0 : 0 ≤ A) (h1 : A < R256) (w : World) :
    Calls Try.prog 16 #[L4 A] w fun e w' => ∃ R : Int, e = .returned (L4 R) ∧ 0 ≤ R ∧ R < ordN ∧ (∃ q : Int, R = A * R256 + q * ordN) ∧ Ext w w' := by
  obtain ⟨a0, a1, a2, a3, ha, ea, _⟩ := L4_open A
  have HA := Lib.hid ha
  have HB := Lib.hid (And.intro h0 h1)
  rw [ea]
  clear ha ea h0 h1
  go_enter Try.func16, Try.ntmps16
  go_wp2_with (go_at_call 20; refine (OrdTo_any (w.heap.size + 2) 0 (w.heap.size + 3) 0 A HB.out.1 HB.out.2 _ (by simp <;> omega) (by simp <;> omega) ?_ ?_).mono ?_; (· intro i hi; rcases (show i = 0 ∨ i = 1 ∨ i = 2 ∨ i = 3 by omega) with rfl | rfl | rfl | rfl <;> exact ⟨⟨.int .u64 0, by simp [go_sem]⟩, by simp [go_sem]⟩); (· rw [HA.out]; intro i x hi; match i, hi with | 0, hi => (obtain rfl := Option.some.inj hi; simp [go_sem]) | 1, hi => (obtain rfl := Option.some.inj hi; simp [go_sem]) | 2, hi => (obtain rfl := Option.some.inj hi; simp [go_sem]) | 3, hi => (obtain rfl := Option.some.inj hi; simp [go_sem])); rintro e w1 ⟨rfl, hT, R, hR0, hR1, hRq, hH⟩; obtain ⟨r0, r1, r2, r3, hq, er, _⟩ := L4_open R; have o0 : w1.cell? ⟨w.heap.size + 1, 0, none⟩ = some (.int .u64 0) := (hT.away.cell (by simp <;> omega) (by omega) 0).trans (by simp [go_sem]); have o1 : w1.cell? ⟨w.heap.size + 1, 1, none⟩ = some (.int .u64 0) := (hT.away.cell (by simp <;> omega) (by omega) 1).trans (by simp [go_sem]); have o2 : w1.cell? ⟨w.heap.size + 1, 2, none⟩ = some (.int .u64 0) := (hT.away.cell (by simp <;> omega) (by omega) 2).trans (by simp [go_sem]); have o3 : w1.cell? ⟨w.heap.size + 1, 3, none⟩ = some (.int .u64 0) := (hT.away.cell (by simp <;> omega) (by omega) 3).trans (by simp [go_sem]); have f0 : w1.frozen? ⟨w.heap.size + 1, 0, none⟩ = false := (hT.away.frozen (by simp <;> omega) (by omega) 0).trans (by simp [go_sem]); have f1 : w1.frozen? ⟨w.heap.size + 1, 1, none⟩ = false := (hT.away.frozen (by simp <;> omega) (by omega) 1).trans (by simp [go_sem]); have f2 : w1.frozen? ⟨w.heap.size + 1, 2, none⟩ = false := (hT.away.frozen (by simp <;> omega) (by omega) 2).trans (by simp [go_sem]); have f3 : w1.frozen? ⟨w.heap.size + 1, 3, none⟩ = false := (hT.away.frozen (by simp <;> omega) (by omega) 3).trans (by simp [go_sem]); have k0 : w1.cell? ⟨w.heap.size + 2, 0, none⟩ = some (.int .u64 r0) := hH 0 r0 (by rw [hq]; rfl); have k1 : w1.cell? ⟨w.heap.size + 2, 1, none⟩ = some (.int .u64 r1) := hH 1 r1 (by rw [hq]; rfl); have k2 : w1.cell? ⟨w.heap.size + 2, 2, none⟩ = some (.int .u64 r2) := hH 2 r2 (by rw [hq]; rfl); have k3 : w1.cell? ⟨w.heap.size + 2, 3, none⟩ = some (.int .u64 r3) := hH 3 r3 (by rw [hq]; rfl); have HF := Lib.hid (And.intro hT (And.intro hR0 (And.intro hR1 (And.intro hRq er)))); clear hT hR0 hR1 hRq hH hq er)
  refine bodyPost_ret (v := .agg #[.int .u64 r0, .int .u64 r1, .int .u64 r2, .int .u64 r3]) (by simp [results, Try.results16, go_sem, o0, o1, o2, o3]) rfl ⟨R, ?_, HF.out.2.1, HF.out.2.2.1, HF.out.2.2.2.1, ?_⟩
  · rw [HF.out.2.2.2.2]
  · refine Ext.of_below ?_
    have B0 : Below w.heap.size w w1 := by
      refine Below.trans ?_ (HF.out.1.away.below (by omega) (by simp <;> omega))
      (repeat (first | exact Below.refl _ _ | refine Below.setCell ?_ (by simp <;> omega) _ | refine Below.alloc ?_ (by simp <;> omega) _))
    repeat (first | (with_reducible exact B0) | (with_reducible refine Below.setCell ?_ (by simp <;> omega) _))

set_option maxHeartbeats 2000000 in
set_option maxRecDepth 100000 in
theorem OrdToMontgomery_any (A : Int) (h0 : 0 ≤ A) (h1 : A < R256) (w : World) :
    Calls Try.prog 9 #[L4 A] w fun e w' => ∃ R : Int, e = .returned (L4 R) ∧ 0 ≤ R ∧ R < ordN ∧ (∃ q : Int, R = A * R256 + q * ordN) ∧ Ext w w' := by
  obtain ⟨a0, a1, a2, a3, ha, ea, _⟩ := L4_open A
  have c1 := fun w => ZZOrdToMontgomery_any A h0 h1 w
  rw [ea] at c1 ⊢
  have C1 := Lib.hid c1
  clear c1 ha ea h0 h1
  go_enter Try.func9, Try.ntmps9
  go_wp2_with (go_at_call 16; (with_reducible refine (C1.out _).mono ?_); rintro e w' ⟨R, rfl, hR0, hR1, hRq, g1, rfl⟩; obtain ⟨r0, r1, r2, r3, hq, er, _⟩ := L4_open R; rw [er]; have HF := Lib.hid (And.intro hR0 (And.intro hR1 (And.intro hRq er))); clear hR0 hR1 hRq hq er)
  refine bodyPost_ret (v := .agg #[.int .u64 r0, .int .u64 r1, .int .u64 r2, .int .u64 r3]) (by simp [results, Try.results9, go_sem]) rfl ⟨R, ?_, HF.out.1, HF.out.2.1, HF.out.2.2.1, ?_⟩
  · rw [HF.out.2.2.2]
  · (refine Ext.of_below ?_; (repeat (first | exact Below.refl _ _ | refine below_drewN' ?_ _ | refine below_ext ?_ (by simp <;> omega) _ | apply Below.drew | refine Below.setCell ?_ (by simp <;> omega) _ | refine Below.alloc ?_ (by simp <;> omega) _)))
end Go.Proofs.Ytlpmkpnjconcdaa
