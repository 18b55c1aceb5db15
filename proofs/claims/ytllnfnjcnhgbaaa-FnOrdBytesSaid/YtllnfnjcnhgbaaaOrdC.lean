/-
  What is proved here: what the package's writing of a number modulo the order returns, and the doors over it.
  Conditions: those of each theorem.
-/
import Derived.Test.YtllnfnjcnhgbaaaRows
import Derived.Test.YtllnfnjcnhgbaaaOrdB
import Derived.Test.YtllnfnjcnhgbaaaClone
import Derived.Test.YtllnfnjcnhgbaaaSame
import Derived.WalkKit
import Derived.Outline
import Derived.Handy
import Derived.Lib.Hide
namespace Go.Proofs.Ytllnfnjcnhgbaaa
open Go.RowKit
set_option linter.unusedSimpArgs false
set_option linter.unusedVariables false

/-- Eight bytes of block g from off on are set; all else is as it was. -/
def Put8 (g off : Nat) (v : Nat → Int) (w w' : World) : Prop :=
  (∀ j, j < 8 → w'.cell? ⟨g, off + j, none⟩ = some (.int .u8 (v j))) ∧ (∀ o, (o < off ∨ off + 8 ≤ o) → w'.cell? ⟨g, o, none⟩ = w.cell? ⟨g, o, none⟩) ∧
  (∀ o, w'.frozen? ⟨g, o, none⟩ = w.frozen? ⟨g, o, none⟩) ∧ w'.heap.size = w.heap.size ∧ Away g w w'

/-- The byte of a word by its place, the highest first. -/
def wbyte (v : Int) (j : Nat) : Int := v / (256 ^ (7 - j) : Nat) % 256

set_option maxHeartbeats 2000000 in
set_option maxRecDepth 100000 in
theorem bePut_any (g off n cap : Nat) (v : Int) (hv0 : 0 ≤ v) (hv1 : v < 18446744073709551616) (hn : 8 ≤ n) (hnc : n ≤ cap) (hn2 : n ≤ 1000) (w : World) (hfz : ∀ o, w.frozen? ⟨g, o, none⟩ = false)
    (x0 x1 x2 x3 x4 x5 x6 x7 : Int) (hc0 : w.cell? ⟨g, off, none⟩ = some (.int .u8 x0)) (hc1 : w.cell? ⟨g, off + 1, none⟩ = some (.int .u8 x1)) (hc2 : w.cell? ⟨g, off + 2, none⟩ = some (.int .u8 x2)) (hc3 : w.cell? ⟨g, off + 3, none⟩ = some (.int .u8 x3)) (hc4 : w.cell? ⟨g, off + 4, none⟩ = some (.int .u8 x4)) (hc5 : w.cell? ⟨g, off + 5, none⟩ = some (.int .u8 x5)) (hc6 : w.cell? ⟨g, off + 6, none⟩ = some (.int .u8 x6)) (hc7 : w.cell? ⟨g, off + 7, none⟩ = some (.int .u8 x7)) :
    Calls Try.prog 35 #[.slice (some ⟨g, off, none⟩) n cap, .int .u64 v] w fun e w' => e = .returned (.tuple #[]) ∧ Put8 g off (wbyte v) w w' := by
  go_enter Try.func35, Try.ntmps35
  go_wp2
  refine wp_loop_rounds 9 ?_
  iterate 9 (rw [rounds_succ]; go_wp2)
  refine bodyPost_end (results_none rfl _ _ _) rfl ⟨rfl, ?_, ?_, ?_, ?_, ?_⟩
  · intro j hj
    rcases (show j = 0 ∨ j = 1 ∨ j = 2 ∨ j = 3 ∨ j = 4 ∨ j = 5 ∨ j = 6 ∨ j = 7 by omega) with rfl | rfl | rfl | rfl | rfl | rfl | rfl | rfl <;> simp [cell_set, cell_set_isSome, hc0, hc1, hc2, hc3, hc4, hc5, hc6, hc7, wbyte]
    omega
  · intro o ho
    have h0 : ¬ off = o := by omega
    have h1 : ¬ off + 1 = o := by omega
    have h2 : ¬ off + 2 = o := by omega
    have h3 : ¬ off + 3 = o := by omega
    have h4 : ¬ off + 4 = o := by omega
    have h5 : ¬ off + 5 = o := by omega
    have h6 : ¬ off + 6 = o := by omega
    have h7 : ¬ off + 7 = o := by omega
    simp [cell_set, cell_set_isSome, hc0, hc1, hc2, hc3, hc4, hc5, hc6, hc7, h0, h1, h2, h3, h4, h5, h6, h7]
  · intro o; simp
  · simp [World.setCell]
  · repeat (first | (with_reducible exact Away.refl _ _) | (with_reducible apply Away.drewN) | (with_reducible apply Away.drew) | (with_reducible apply Away.setCell))




theorem word_bytes8 (v : Int) (h0 : 0 ≤ v) (h1 : v < 18446744073709551616) : v = wbyte v 7 + 256 * (wbyte v 6 + 256 * (wbyte v 5 + 256 * (wbyte v 4 + 256 * (wbyte v 3 + 256 * (wbyte v 2 + 256 * (wbyte v 1 + 256 * wbyte v 0)))))) := by
  simp [wbyte]; omega
theorem wbyte_bd (v : Int) (j : Nat) : 0 ≤ wbyte v j ∧ wbyte v j < 256 := by unfold wbyte; omega
theorem words_bytes (s0 s1 s2 s3 : Int) (h0 : 0 ≤ s0 ∧ s0 < 18446744073709551616) (h1 : 0 ≤ s1 ∧ s1 < 18446744073709551616) (h2 : 0 ≤ s2 ∧ s2 < 18446744073709551616) (h3 : 0 ≤ s3 ∧ s3 < 18446744073709551616) :
    bds 32 (qal [s0, s1, s2, s3]) = [wbyte s0 7, wbyte s0 6, wbyte s0 5, wbyte s0 4, wbyte s0 3, wbyte s0 2, wbyte s0 1, wbyte s0 0, wbyte s1 7, wbyte s1 6, wbyte s1 5, wbyte s1 4, wbyte s1 3, wbyte s1 2, wbyte s1 1, wbyte s1 0, wbyte s2 7, wbyte s2 6, wbyte s2 5, wbyte s2 4, wbyte s2 3, wbyte s2 2, wbyte s2 1, wbyte s2 0, wbyte s3 7, wbyte s3 6, wbyte s3 5, wbyte s3 4, wbyte s3 3, wbyte s3 2, wbyte s3 1, wbyte s3 0] := by
  have e := bds_bal [wbyte s0 7, wbyte s0 6, wbyte s0 5, wbyte s0 4, wbyte s0 3, wbyte s0 2, wbyte s0 1, wbyte s0 0, wbyte s1 7, wbyte s1 6, wbyte s1 5, wbyte s1 4, wbyte s1 3, wbyte s1 2, wbyte s1 1, wbyte s1 0, wbyte s2 7, wbyte s2 6, wbyte s2 5, wbyte s2 4, wbyte s2 3, wbyte s2 2, wbyte s2 1, wbyte s2 0, wbyte s3 7, wbyte s3 6, wbyte s3 5, wbyte s3 4, wbyte s3 3, wbyte s3 2, wbyte s3 1, wbyte s3 0] (by
    intro x hx
    simp only [List.mem_cons, List.not_mem_nil, or_false] at hx
    rcases hx with rfl | rfl | rfl | rfl | rfl | rfl | rfl | rfl | rfl | rfl | rfl | rfl | rfl | rfl | rfl | rfl | rfl | rfl | rfl | rfl | rfl | rfl | rfl | rfl | rfl | rfl | rfl | rfl | rfl | rfl | rfl | rfl <;> exact wbyte_bd _ _)
  rw [← e]
  show bds 32 _ = bds 32 _
  congr 1
  have e0 := word_bytes8 s0 h0.1 h0.2
  have e1 := word_bytes8 s1 h1.1 h1.2
  have e2 := word_bytes8 s2 h2.1 h2.2
  have e3 := word_bytes8 s3 h3.1 h3.2
  have t : bal [wbyte s0 7, wbyte s0 6, wbyte s0 5, wbyte s0 4, wbyte s0 3, wbyte s0 2, wbyte s0 1, wbyte s0 0, wbyte s1 7, wbyte s1 6, wbyte s1 5, wbyte s1 4, wbyte s1 3, wbyte s1 2, wbyte s1 1, wbyte s1 0, wbyte s2 7, wbyte s2 6, wbyte s2 5, wbyte s2 4, wbyte s2 3, wbyte s2 2, wbyte s2 1, wbyte s2 0, wbyte s3 7, wbyte s3 6, wbyte s3 5, wbyte s3 4, wbyte s3 3, wbyte s3 2, wbyte s3 1, wbyte s3 0] = (wbyte s0 7 + 256 * (wbyte s0 6 + 256 * (wbyte s0 5 + 256 * (wbyte s0 4 + 256 * (wbyte s0 3 + 256 * (wbyte s0 2 + 256 * (wbyte s0 1 + 256 * wbyte s0 0))))))) + 18446744073709551616 * ((wbyte s1 7 + 256 * (wbyte s1 6 + 256 * (wbyte s1 5 + 256 * (wbyte s1 4 + 256 * (wbyte s1 3 + 256 * (wbyte s1 2 + 256 * (wbyte s1 1 + 256 * wbyte s1 0))))))) + 18446744073709551616 * ((wbyte s2 7 + 256 * (wbyte s2 6 + 256 * (wbyte s2 5 + 256 * (wbyte s2 4 + 256 * (wbyte s2 3 + 256 * (wbyte s2 2 + 256 * (wbyte s2 1 + 256 * wbyte s2 0))))))) + 18446744073709551616 * (wbyte s3 7 + 256 * (wbyte s3 6 + 256 * (wbyte s3 5 + 256 * (wbyte s3 4 + 256 * (wbyte s3 3 + 256 * (wbyte s3 2 + 256 * (wbyte s3 1 + 256 * wbyte s3 0))))))))) := by
    simp only [bal]; omega
  rw [t, ← e0, ← e1, ← e2, ← e3]
  simp only [qal]; omega

/-- The bytes of a number by its place in the list, the highest first. -/
def bytesAt (S : Int) (j : Nat) : Int := ((bds 32 S).reverse).getD j 0

set_option maxHeartbeats 2000000 in
set_option maxRecDepth 100000 in
theorem ord_Bytes (b : Nat) (s0 s1 s2 s3 : Int) (h0 : 0 ≤ s0 ∧ s0 < 18446744073709551616) (h1 : 0 ≤ s1 ∧ s1 < 18446744073709551616) (h2 : 0 ≤ s2 ∧ s2 < 18446744073709551616) (h3 : 0 ≤ s3 ∧ s3 < 18446744073709551616)
    (w : World) (hb : b < w.heap.size) (hs0 : w.cell? ⟨b, 0, none⟩ = some (.int .u64 s0)) (hs1 : w.cell? ⟨b, 1, none⟩ = some (.int .u64 s1)) (hs2 : w.cell? ⟨b, 2, none⟩ = some (.int .u64 s2)) (hs3 : w.cell? ⟨b, 3, none⟩ = some (.int .u64 s3)) :
    Calls Try.prog 31 #[.pointer (some ⟨b, 0, none⟩)] w fun e w' => ∃ g, e = .returned (.slice (some ⟨g, 0, none⟩) 32 32) ∧
      w.heap.size ≤ g ∧ g < w'.heap.size ∧ (∀ j, j < 32 → w'.cell? ⟨g, j, none⟩ = some (.int .u8 (bytesAt (qal [s0, s1, s2, s3]) j))) ∧ Ext w w' := by
  have HB := words_bytes s0 s1 s2 s3 h0 h1 h2 h3
  have HH := Lib.hid HB
  clear HB
  have hne : ¬ b = w.heap.size := by omega
  have hne' : ¬ w.heap.size = b := by omega
  go_enter Try.func31, Try.ntmps31
  go_wp2_with (refine wp_quiet_tail (l := [_, _, _, _, _, _]) 5 (by kernel_rfl) (by kernel_rfl) ?_; simp only [List.take_succ_cons, List.take_zero, List.drop_succ_cons, List.drop_zero]; (repeat (first | go_big_quiet_skip | (go_big_quiet_want; go_big_quiet_op; first | go_big_quiet_on))); refine wpQuiet_nil ?_; intro _ hw'; obtain ⟨nq, hw''⟩ := hw'; subst hw'')
  have Z0 : ∀ j, j < 32 → ((w.alloc (.cells #[.int .u8 0, .int .u8 0, .int .u8 0, .int .u8 0, .int .u8 0, .int .u8 0, .int .u8 0, .int .u8 0, .int .u8 0, .int .u8 0, .int .u8 0, .int .u8 0, .int .u8 0, .int .u8 0, .int .u8 0, .int .u8 0, .int .u8 0, .int .u8 0, .int .u8 0, .int .u8 0, .int .u8 0, .int .u8 0, .int .u8 0, .int .u8 0, .int .u8 0, .int .u8 0, .int .u8 0, .int .u8 0, .int .u8 0, .int .u8 0, .int .u8 0, .int .u8 0] 31)).drewN nq).cell? ⟨w.heap.size, j, none⟩ = some (.int .u8 0) := by
    intro j hj
    rw [cell_dn, World.cell?_alloc_new]
    rcases (show j = 0 ∨ j = 1 ∨ j = 2 ∨ j = 3 ∨ j = 4 ∨ j = 5 ∨ j = 6 ∨ j = 7 ∨ j = 8 ∨ j = 9 ∨ j = 10 ∨ j = 11 ∨ j = 12 ∨ j = 13 ∨ j = 14 ∨ j = 15 ∨ j = 16 ∨ j = 17 ∨ j = 18 ∨ j = 19 ∨ j = 20 ∨ j = 21 ∨ j = 22 ∨ j = 23 ∨ j = 24 ∨ j = 25 ∨ j = 26 ∨ j = 27 ∨ j = 28 ∨ j = 29 ∨ j = 30 ∨ j = 31 by omega) with rfl | rfl | rfl | rfl | rfl | rfl | rfl | rfl | rfl | rfl | rfl | rfl | rfl | rfl | rfl | rfl | rfl | rfl | rfl | rfl | rfl | rfl | rfl | rfl | rfl | rfl | rfl | rfl | rfl | rfl | rfl | rfl <;> rfl
  have F0 : ∀ o, ((w.alloc (.cells #[.int .u8 0, .int .u8 0, .int .u8 0, .int .u8 0, .int .u8 0, .int .u8 0, .int .u8 0, .int .u8 0, .int .u8 0, .int .u8 0, .int .u8 0, .int .u8 0, .int .u8 0, .int .u8 0, .int .u8 0, .int .u8 0, .int .u8 0, .int .u8 0, .int .u8 0, .int .u8 0, .int .u8 0, .int .u8 0, .int .u8 0, .int .u8 0, .int .u8 0, .int .u8 0, .int .u8 0, .int .u8 0, .int .u8 0, .int .u8 0, .int .u8 0, .int .u8 0] 31)).drewN nq).frozen? ⟨w.heap.size, o, none⟩ = false := by intro o; simp
  have S0 : ∀ o, ((w.alloc (.cells #[.int .u8 0, .int .u8 0, .int .u8 0, .int .u8 0, .int .u8 0, .int .u8 0, .int .u8 0, .int .u8 0, .int .u8 0, .int .u8 0, .int .u8 0, .int .u8 0, .int .u8 0, .int .u8 0, .int .u8 0, .int .u8 0, .int .u8 0, .int .u8 0, .int .u8 0, .int .u8 0, .int .u8 0, .int .u8 0, .int .u8 0, .int .u8 0, .int .u8 0, .int .u8 0, .int .u8 0, .int .u8 0, .int .u8 0, .int .u8 0, .int .u8 0, .int .u8 0] 31)).drewN nq).cell? ⟨b, o, none⟩ = w.cell? ⟨b, o, none⟩ := by intro o; rw [cell_dn, World.cell?_alloc_lt]; exact hb
  have N0 : ((w.alloc (.cells #[.int .u8 0, .int .u8 0, .int .u8 0, .int .u8 0, .int .u8 0, .int .u8 0, .int .u8 0, .int .u8 0, .int .u8 0, .int .u8 0, .int .u8 0, .int .u8 0, .int .u8 0, .int .u8 0, .int .u8 0, .int .u8 0, .int .u8 0, .int .u8 0, .int .u8 0, .int .u8 0, .int .u8 0, .int .u8 0, .int .u8 0, .int .u8 0, .int .u8 0, .int .u8 0, .int .u8 0, .int .u8 0, .int .u8 0, .int .u8 0, .int .u8 0, .int .u8 0] 31)).drewN nq).heap.size = w.heap.size + 1 := by simp
  have A0 : Away w.heap.size w ((w.alloc (.cells #[.int .u8 0, .int .u8 0, .int .u8 0, .int .u8 0, .int .u8 0, .int .u8 0, .int .u8 0, .int .u8 0, .int .u8 0, .int .u8 0, .int .u8 0, .int .u8 0, .int .u8 0, .int .u8 0, .int .u8 0, .int .u8 0, .int .u8 0, .int .u8 0, .int .u8 0, .int .u8 0, .int .u8 0, .int .u8 0, .int .u8 0, .int .u8 0, .int .u8 0, .int .u8 0, .int .u8 0, .int .u8 0, .int .u8 0, .int .u8 0, .int .u8 0, .int .u8 0] 31)).drewN nq) := Away.of_below (below_drewN' ((Below.refl _ w).alloc (Nat.le_refl _) _) nq) (Nat.le_refl _)
  refine (bePut_any w.heap.size 24 8 8 s0 h0.1 h0.2 (by omega) (by omega) (by omega) _ F0 0 0 0 0 0 0 0 0 (Z0 24 (by omega)) (Z0 25 (by omega)) (Z0 26 (by omega)) (Z0 27 (by omega)) (Z0 28 (by omega)) (Z0 29 (by omega)) (Z0 30 (by omega)) (Z0 31 (by omega))).mono ?_
  have Y0 := Lib.hid Z0; have G0 := Lib.hid F0; have R0 := Lib.hid S0; have M0 := Lib.hid N0; have B0 := Lib.hid A0
  clear Z0 F0 S0 N0 A0
  rintro e w1 ⟨rfl, hp⟩
  have P1 := Lib.hid hp
  clear hp
  have hs1' : w1.cell? ⟨b, 1, none⟩ = some (.int .u64 s1) := ((P1.out.2.2.2.2.cell (by have := M0.out; omega) hne 1).trans (R0.out 1)).trans hs1
  go_wp2_with (refine wp_quiet_tail (l := [_, _, _, _, _, _]) 5 (by kernel_rfl) (by kernel_rfl) ?_; simp only [List.take_succ_cons, List.take_zero, List.drop_succ_cons, List.drop_zero]; (repeat (first | go_big_quiet_skip | (go_big_quiet_want; go_big_quiet_op; first | go_big_quiet_on))); refine wpQuiet_nil ?_; intro _ hw'; obtain ⟨nq, hw''⟩ := hw'; subst hw'')
  have Z1 : ∀ j, j < 24 → (w1.drewN nq).cell? ⟨w.heap.size, j, none⟩ = some (.int .u8 0) := fun j hj => (P1.out.2.1 j (by omega)).trans (Y0.out j (by omega))
  have F1 : ∀ o, (w1.drewN nq).frozen? ⟨w.heap.size, o, none⟩ = false := fun o => (P1.out.2.2.1 o).trans (G0.out o)
  have S1 : ∀ o, (w1.drewN nq).cell? ⟨b, o, none⟩ = w.cell? ⟨b, o, none⟩ := fun o => (P1.out.2.2.2.2.cell (by have := M0.out; omega) hne o).trans (R0.out o)
  have N1 : (w1.drewN nq).heap.size = w.heap.size + 1 := (P1.out.2.2.2.1).trans M0.out
  have A1 : Away w.heap.size w (w1.drewN nq) := B0.out.trans P1.out.2.2.2.2
  refine (bePut_any w.heap.size 16 16 16 s1 h1.1 h1.2 (by omega) (by omega) (by omega) _ F1 0 0 0 0 0 0 0 0 (Z1 16 (by omega)) (Z1 17 (by omega)) (Z1 18 (by omega)) (Z1 19 (by omega)) (Z1 20 (by omega)) (Z1 21 (by omega)) (Z1 22 (by omega)) (Z1 23 (by omega))).mono ?_
  have Y1 := Lib.hid Z1; have G1 := Lib.hid F1; have R1 := Lib.hid S1; have M1 := Lib.hid N1; have B1 := Lib.hid A1
  clear Z1 F1 S1 N1 A1
  rintro e w2 ⟨rfl, hp⟩
  have P2 := Lib.hid hp
  clear hp
  have hs2' : w2.cell? ⟨b, 2, none⟩ = some (.int .u64 s2) := ((P2.out.2.2.2.2.cell (by have := M1.out; omega) hne 2).trans (R1.out 2)).trans hs2
  go_wp2_with (refine wp_quiet_tail (l := [_, _, _, _, _, _]) 5 (by kernel_rfl) (by kernel_rfl) ?_; simp only [List.take_succ_cons, List.take_zero, List.drop_succ_cons, List.drop_zero]; (repeat (first | go_big_quiet_skip | (go_big_quiet_want; go_big_quiet_op; first | go_big_quiet_on))); refine wpQuiet_nil ?_; intro _ hw'; obtain ⟨nq, hw''⟩ := hw'; subst hw'')
  have Z2 : ∀ j, j < 16 → (w2.drewN nq).cell? ⟨w.heap.size, j, none⟩ = some (.int .u8 0) := fun j hj => (P2.out.2.1 j (by omega)).trans (Y1.out j (by omega))
  have F2 : ∀ o, (w2.drewN nq).frozen? ⟨w.heap.size, o, none⟩ = false := fun o => (P2.out.2.2.1 o).trans (G1.out o)
  have S2 : ∀ o, (w2.drewN nq).cell? ⟨b, o, none⟩ = w.cell? ⟨b, o, none⟩ := fun o => (P2.out.2.2.2.2.cell (by have := M1.out; omega) hne o).trans (R1.out o)
  have N2 : (w2.drewN nq).heap.size = w.heap.size + 1 := (P2.out.2.2.2.1).trans M1.out
  have A2 : Away w.heap.size w (w2.drewN nq) := B1.out.trans P2.out.2.2.2.2
  refine (bePut_any w.heap.size 8 24 24 s2 h2.1 h2.2 (by omega) (by omega) (by omega) _ F2 0 0 0 0 0 0 0 0 (Z2 8 (by omega)) (Z2 9 (by omega)) (Z2 10 (by omega)) (Z2 11 (by omega)) (Z2 12 (by omega)) (Z2 13 (by omega)) (Z2 14 (by omega)) (Z2 15 (by omega))).mono ?_
  have Y2 := Lib.hid Z2; have G2 := Lib.hid F2; have R2 := Lib.hid S2; have M2 := Lib.hid N2; have B2 := Lib.hid A2
  clear Z2 F2 S2 N2 A2
  rintro e w3 ⟨rfl, hp⟩
  have P3 := Lib.hid hp
  clear hp
  have hs3' : w3.cell? ⟨b, 3, none⟩ = some (.int .u64 s3) := ((P3.out.2.2.2.2.cell (by have := M2.out; omega) hne 3).trans (R2.out 3)).trans hs3
  go_wp2_with (refine wp_quiet_tail (l := [_, _, _, _, _, _]) 5 (by kernel_rfl) (by kernel_rfl) ?_; simp only [List.take_succ_cons, List.take_zero, List.drop_succ_cons, List.drop_zero]; (repeat (first | go_big_quiet_skip | (go_big_quiet_want; go_big_quiet_op; first | go_big_quiet_on))); refine wpQuiet_nil ?_; intro _ hw'; obtain ⟨nq, hw''⟩ := hw'; subst hw'')
  have Z3 : ∀ j, j < 8 → (w3.drewN nq).cell? ⟨w.heap.size, j, none⟩ = some (.int .u8 0) := fun j hj => (P3.out.2.1 j (by omega)).trans (Y2.out j (by omega))
  have F3 : ∀ o, (w3.drewN nq).frozen? ⟨w.heap.size, o, none⟩ = false := fun o => (P3.out.2.2.1 o).trans (G2.out o)
  have S3 : ∀ o, (w3.drewN nq).cell? ⟨b, o, none⟩ = w.cell? ⟨b, o, none⟩ := fun o => (P3.out.2.2.2.2.cell (by have := M2.out; omega) hne o).trans (R2.out o)
  have N3 : (w3.drewN nq).heap.size = w.heap.size + 1 := (P3.out.2.2.2.1).trans M2.out
  have A3 : Away w.heap.size w (w3.drewN nq) := B2.out.trans P3.out.2.2.2.2
  refine (bePut_any w.heap.size 0 32 32 s3 h3.1 h3.2 (by omega) (by omega) (by omega) _ F3 0 0 0 0 0 0 0 0 (Z3 0 (by omega)) (Z3 1 (by omega)) (Z3 2 (by omega)) (Z3 3 (by omega)) (Z3 4 (by omega)) (Z3 5 (by omega)) (Z3 6 (by omega)) (Z3 7 (by omega))).mono ?_
  have Y3 := Lib.hid Z3; have G3 := Lib.hid F3; have R3 := Lib.hid S3; have M3 := Lib.hid N3; have B3 := Lib.hid A3
  clear Z3 F3 S3 N3 A3
  rintro e w4 ⟨rfl, hp⟩
  have P4 := Lib.hid hp
  clear hp
  go_wp2
  go_ret
  have BB : Away w.heap.size w w4 := B3.out.trans P4.out.2.2.2.2
  refine ⟨w.heap.size, rfl, Nat.le_refl _, ?_, ?_, Ext.of_below (BB.below (Nat.le_refl _) (Nat.le_refl _))⟩
  · have := P4.out.2.2.2.1; have := M3.out; omega
  · have e3 : ∀ j, j < 8 → w4.cell? ⟨w.heap.size, 0 + j, none⟩ = some (.int .u8 (wbyte s3 j)) := P4.out.1
    have e2 : ∀ j, j < 8 → w4.cell? ⟨w.heap.size, 8 + j, none⟩ = some (.int .u8 (wbyte s2 j)) := fun j hj => (P4.out.2.1 _ (by omega)).trans (P3.out.1 j hj)
    have e1 : ∀ j, j < 8 → w4.cell? ⟨w.heap.size, 16 + j, none⟩ = some (.int .u8 (wbyte s1 j)) := fun j hj => (P4.out.2.1 _ (by omega)).trans ((P3.out.2.1 _ (by omega)).trans (P2.out.1 j hj))
    have e0 : ∀ j, j < 8 → w4.cell? ⟨w.heap.size, 24 + j, none⟩ = some (.int .u8 (wbyte s0 j)) := fun j hj => (P4.out.2.1 _ (by omega)).trans ((P3.out.2.1 _ (by omega)).trans ((P2.out.2.1 _ (by omega)).trans (P1.out.1 j hj)))
    intro j hj
    unfold bytesAt
    rw [HH.out]
    rcases (show j = 0 ∨ j = 1 ∨ j = 2 ∨ j = 3 ∨ j = 4 ∨ j = 5 ∨ j = 6 ∨ j = 7 ∨ j = 8 ∨ j = 9 ∨ j = 10 ∨ j = 11 ∨ j = 12 ∨ j = 13 ∨ j = 14 ∨ j = 15 ∨ j = 16 ∨ j = 17 ∨ j = 18 ∨ j = 19 ∨ j = 20 ∨ j = 21 ∨ j = 22 ∨ j = 23 ∨ j = 24 ∨ j = 25 ∨ j = 26 ∨ j = 27 ∨ j = 28 ∨ j = 29 ∨ j = 30 ∨ j = 31 by omega) with rfl | rfl | rfl | rfl | rfl | rfl | rfl | rfl | rfl | rfl | rfl | rfl | rfl | rfl | rfl | rfl | rfl | rfl | rfl | rfl | rfl | rfl | rfl | rfl | rfl | rfl | rfl | rfl | rfl | rfl | rfl | rfl
    · exact e3 0 (by omega)
    · exact e3 1 (by omega)
    · exact e3 2 (by omega)
    · exact e3 3 (by omega)
    · exact e3 4 (by omega)
    · exact e3 5 (by omega)
    · exact e3 6 (by omega)
    · exact e3 7 (by omega)
    · exact e2 0 (by omega)
    · exact e2 1 (by omega)
    · exact e2 2 (by omega)
    · exact e2 3 (by omega)
    · exact e2 4 (by omega)
    · exact e2 5 (by omega)
    · exact e2 6 (by omega)
    · exact e2 7 (by omega)
    · exact e1 0 (by omega)
    · exact e1 1 (by omega)
    · exact e1 2 (by omega)
    · exact e1 3 (by omega)
    · exact e1 4 (by omega)
    · exact e1 5 (by omega)
    · exact e1 6 (by omega)
    · exact e1 7 (by omega)
    · exact e0 0 (by omega)
    · exact e0 1 (by omega)
    · exact e0 2 (by omega)
    · exact e0 3 (by omega)
    · exact e0 4 (by omega)
    · exact e0 5 (by omega)
    · exact e0 6 (by omega)
    · exact e0 7 (by omega)
end Go.Proofs.Ytllnfnjcnhgbaaa
