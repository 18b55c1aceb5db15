/-
  What is proved here: what the functions on bytes return: turned round, compared.
  Conditions: those of each theorem.
-/
import Derived.Test.YtgdjmgcolipcnaaProg
import Derived.Test.YtgdjmgcolipcnaaElm
import Derived.Laws.BitsAllLaws
import Derived.BigRegion
import Derived.WalkKit
import Derived.WalkSpells
import Derived.Outline
import Derived.Handy
import Derived.ProofKit
import Derived.Deep.QuietTactic
import Derived.BigQuiet
import Derived.Lib.Hide
import Derived.OpenShut
namespace Go.Proofs.Ytgdjmgcolipcnaa
open Go Go.RowKit Ecp
set_option linter.unusedSimpArgs false
set_option linter.unusedVariables false

theorem or_xor_zero (v x y : Int) (hv : 0 ≤ v ∧ v < 256) (hx : 0 ≤ x ∧ x < 256) (hy : 0 ≤ y ∧ y < 256) :
    (0 ≤ bits .or .u8 v (bits .xor .u8 x y) ∧ bits .or .u8 v (bits .xor .u8 x y) < 256) ∧ (bits .or .u8 v (bits .xor .u8 x y) = 0 ↔ v = 0 ∧ x = y) := by
  have hxy : x.toNat ^^^ y.toNat < 2 ^ 8 := Nat.xor_lt_two_pow (by omega) (by omega)
  rw [u8_xor x y hx.1 hx.2 hy.1 hy.2, u8_or v _ hv.1 hv.2 (by omega) (by omega), Int.toNat_natCast]
  have hor : v.toNat ||| (x.toNat ^^^ y.toNat) < 2 ^ 8 := Nat.or_lt_two_pow (by omega) hxy
  refine ⟨by omega, ?_⟩
  have key : (v.toNat ||| (x.toNat ^^^ y.toNat)) = 0 ↔ v.toNat = 0 ∧ x.toNat = y.toNat := by
    constructor
    · intro h
      have h1 := Nat.or_eq_zero_iff.1 h
      refine ⟨h1.1, ?_⟩
      have h2 := congrArg (fun t => t ^^^ y.toNat) h1.2
      simpa [Nat.xor_assoc] using h2
    · rintro ⟨h1, h2⟩
      rw [h1, h2, Nat.xor_self]; rfl
  constructor
  · intro h
    have := key.1 (by omega)
    omega
  · rintro ⟨h1, h2⟩
    have := key.2 ⟨by omega, by omega⟩
    omega
theorem bal_app : ∀ (l : List Int) (x : Int), bal (l ++ [x]) = bal l + 256 ^ l.length * x
  | [], x => by simp [bal]
  | a :: l, x => by
    rw [List.cons_append, bal, bal, bal_app l x, List.length_cons, Int.pow_succ, Int.mul_add, Int.mul_comm (256 ^ l.length) 256, Int.mul_assoc, Int.add_assoc]
theorem be_cons (x : Int) (l : List Int) : be (x :: l) = 256 ^ l.length * x + be l := by
  unfold be
  rw [List.reverse_cons, bal_app, List.length_reverse, Int.add_comm]
theorem be_bd' (l : List Int) (h : ∀ x ∈ l, 0 ≤ x ∧ x < 256) : 0 ≤ be l ∧ be l < 256 ^ l.length := by
  have := bal_bd l.reverse (fun x hx => h x (List.mem_reverse.1 hx))
  rw [List.length_reverse] at this
  exact this
theorem be_lt : ∀ (k : Nat) (xs ys : List Int), xs.length = ys.length → k < xs.length → (∀ x ∈ xs, 0 ≤ x ∧ x < 256) → (∀ y ∈ ys, 0 ≤ y ∧ y < 256) → (∀ j, j < k → xs.getD j 0 = ys.getD j 0) → xs.getD k 0 < ys.getD k 0 → be xs < be ys
  | 0, x :: xs, y :: ys, hl, _, bx, by_, _, hlt => by
    rw [be_cons, be_cons]
    have hl' : xs.length = ys.length := by simpa using hl
    rw [← hl']
    have hx := be_bd' xs (fun z hz => bx z (List.mem_cons_of_mem _ hz))
    have hy := be_bd' ys (fun z hz => by_ z (List.mem_cons_of_mem _ hz))
    have hlt : x < y := by simpa using hlt
    have hp : (0 : Int) < 256 ^ xs.length := Int.pow_pos (by decide)
    have h1 : 256 ^ xs.length * (x + 1) ≤ 256 ^ xs.length * y := Int.mul_le_mul_of_nonneg_left (by omega) (Int.le_of_lt hp)
    rw [Int.mul_add, Int.mul_one] at h1
    generalize (256 : Int) ^ xs.length * x = a at *
    generalize (256 : Int) ^ xs.length * y = b at *
    generalize (256 : Int) ^ xs.length = c at *
    omega
  | k + 1, x :: xs, y :: ys, hl, hk, bx, by_, hp, hlt => by
    rw [be_cons, be_cons]
    have hl' : xs.length = ys.length := by simpa using hl
    have h0 : x = y := by simpa using hp 0 (by omega)
    have ih := be_lt k xs ys hl' (by simpa using hk) (fun z hz => bx z (List.mem_cons_of_mem _ hz)) (fun z hz => by_ z (List.mem_cons_of_mem _ hz)) (fun j hj => by simpa using hp (j + 1) (by omega)) (by simpa using hlt)
    rw [h0, hl']
    omega
  | _, [], _, _, hk, _, _, _, _ => by simp at hk
  | _, _ :: _, [], hl, _, _, _, _, _ => by simp at hl
theorem all_eq (xs ys : List Int) (hx : xs.length = 32) (hy : ys.length = 32) (h : ∀ j, j < 32 → xs.getD j 0 = ys.getD j 0) : xs = ys := by
  apply List.ext_getElem?
  intro i
  by_cases hi : i < 32
  · rw [getD_in' (by omega : i < xs.length), getD_in' (by omega : i < ys.length), h i hi]
  · rw [List.getElem?_eq_none (by omega), List.getElem?_eq_none (by omega)]
/-- Behind k rounds. -/
def mix (l : List Int) (k j : Nat) : Int := if j < k ∨ 32 - k ≤ j then l.getD (31 - j) 0 else l.getD j 0
theorem mix_zero (l : List Int) (j : Nat) (hj : j < 32) : mix l 0 j = l.getD j 0 := by
  unfold mix; rw [if_neg (by omega)]
theorem mix_full (l : List Int) (j : Nat) (hj : j < 32) : mix l 16 j = l.getD (31 - j) 0 := by
  unfold mix; rw [if_pos (by omega)]
theorem mix_at (l : List Int) (k : Nat) (hk : k < 16) : mix l k k = l.getD k 0 ∧ mix l k (31 - k) = l.getD (31 - k) 0 := by
  constructor
  · unfold mix; rw [if_neg (by omega)]
  · unfold mix; rw [if_neg (by omega)]
theorem mix_succ (l : List Int) (k j : Nat) (hk : k < 16) (hj : j < 32) : mix l (k + 1) j = if j = k then l.getD (31 - k) 0 else if j = 31 - k then l.getD k 0 else mix l k j := by
  unfold mix
  by_cases h1 : j = k
  · subst h1; rw [if_pos (by omega), if_pos rfl]
  · rw [if_neg h1]
    by_cases h2 : j = 31 - k
    · subst h2; rw [if_pos (by omega), if_pos rfl]
      congr 1; omega
    · rw [if_neg h2]
      by_cases h3 : j < k ∨ 32 - k ≤ j
      · rw [if_pos (by omega), if_pos h3]
      · rw [if_neg (by omega), if_neg h3]

theorem set2 (w : World) (c o a1 a2 : Nat) (v1 v2 : Value) (h1 : o ≤ a1 ∧ a1 < o + 32) (h2 : o ≤ a2 ∧ a2 < o + 32) : Turned c o 32 w ((w.setCell ⟨c, a1, none⟩ v1).setCell ⟨c, a2, none⟩ v2).drew := by
  refine ⟨((Away.refl c w).setCell _ _).setCell _ _, fun i hi => ?_, fun i => ?_⟩
  · have e1 : i ≠ a1 := fun e => hi (a1 - o) (by omega) (by omega)
    have e2 : i ≠ a2 := fun e => hi (a2 - o) (by omega) (by omega)
    show (World.setCell (World.setCell _ _ _) _ _).cell? _ = _
    rw [World.cell?_setCell_other _ _ _ _ (by simp [Ne.symm e2]), World.cell?_setCell_other _ _ _ _ (by simp [Ne.symm e1])]
  · show (World.setCell (World.setCell _ _ _) _ _).frozen? _ = _
    rw [World.frozen?_setCell, World.frozen?_setCell]
set_option maxHeartbeats 2000000 in
set_option maxRecDepth 100000 in
theorem Invert_any (c o cap : Nat) (l : List Int) (hl : l.length = 32) (w : World) (hc : c < w.heap.size) (hf : Free w c o 32) (h : Held .u8 w c o l) :
    Calls Try.prog 57 #[.slice (some ⟨c, o, none⟩) 32 cap] w fun e w' => e = .returned (.tuple #[]) ∧ Turned c o 32 w w' ∧ Held .u8 w' c o l.reverse := by
  have hm : ∀ j, j < 32 → w.cell? ⟨c, o + j, none⟩ = some (.int .u8 (mix l 0 j)) := fun j hj => by
    rw [mix_zero l j hj]
    exact h j _ (getD_in' (by omega))
  have H := Lib.hid (And.intro hl (And.intro hc (And.intro hf hm)))
  clear hl hc hf h hm
  go_enter Try.func57, Try.ntmps57
  go_wp2
  go_loopw [2] (fun i wr => ∃ k : Nat, k ≤ 16 ∧ i = .int .i64 k ∧ Turned c o 32 w wr ∧ ∀ j, j < 32 → wr.cell? ⟨c, o + j, none⟩ = some (.int .u8 (mix l k j))) (fun i _ => 16 - (intOf i).toNat)
  case atStart => exact ⟨0, by omega, rfl, Turned.refl _ _ _ _, H.out.2.2.2⟩
  case round =>
    obtain ⟨k, hk, rfl, hT, hm⟩ := hrel
    by_cases hlt : k < 16
    · have a1 := hm k (by omega)
      have a2 := hm (31 - k) (by omega)
      rw [(mix_at l k hlt).1] at a1
      rw [(mix_at l k hlt).2] at a2
      have f1 : wr.frozen? ⟨c, o + k, none⟩ = false := (hT.frz _).trans (H.out.2.2.1 k (by omega)).2
      have f2 : wr.frozen? ⟨c, o + (31 - k), none⟩ = false := (hT.frz _).trans (H.out.2.2.1 (31 - k) (by omega)).2
      have HR := Lib.hid (And.intro hT hm)
      clear hT hm
      go_wp2_with (go_region)
      refine ⟨⟨k + 1, by omega, by go_num, ?_, ?_⟩, by simp [intOf]; omega⟩
      · refine HR.out.1.trans ?_
        exact set2 wr c o (o + k) (o + (31 - k)) _ _ (by omega) (by omega)
      · intro j hj
        rw [mix_succ l k j hlt hj]
        show (World.setCell (World.setCell _ _ _) _ _).cell? _ = _
        rw [cell_set _ _ _ _ _ (by rw [cell_set_isSome, a2]; rfl)]
        by_cases e1 : j = k
        · subst e1
          rw [if_neg (by omega), if_pos rfl, cell_set _ _ _ _ _ (by rw [a1]; rfl), if_pos rfl]
          simp
        · rw [if_neg e1]
          by_cases e2 : j = 31 - k
          · rw [if_pos (by omega), if_pos e2]
            simp
          · rw [if_neg (by omega), if_neg e2, cell_set _ _ _ _ _ (by rw [a1]; rfl), if_neg (by omega)]
            exact HR.out.2 j hj
    · obtain rfl : k = 16 := by omega
      have HR := Lib.hid (And.intro hT hm)
      clear hT hm
      go_wp2
      refine bodyPost_end (results_none rfl _ _ _) rfl ⟨rfl, HR.out.1, ?_⟩
      intro j x hj
      have hl := H.out.1
      have hjl : j < 32 := by have := (List.getElem?_eq_some_iff.1 hj).1; rw [List.length_reverse, hl] at this; exact this
      rw [HR.out.2 j hjl, mix_full l j hjl]
      rw [List.getElem?_reverse (by omega), hl] at hj
      rw [List.getD_eq_getElem?_getD, show 31 - j = 32 - 1 - j by omega, hj]
      rfl


set_option maxHeartbeats 2000000 in
set_option maxRecDepth 100000 in
theorem Le_any (b o cap c p cap' : Nat) (xs ys : List Int) (hx : xs.length = 32) (hy : ys.length = 32) (bx : ∀ x ∈ xs, 0 ≤ x ∧ x < 256) (by_ : ∀ x ∈ ys, 0 ≤ x ∧ x < 256) (w : World) (h1 : Held .u8 w b o xs) (h2 : Held .u8 w c p ys) :
    Calls Try.prog 56 #[.slice (some ⟨b, o, none⟩) 32 cap, .slice (some ⟨c, p, none⟩) 32 cap'] w fun e w' => e = .returned (.int .i64 (if be xs ≤ be ys then 1 else 0)) ∧ ∃ n, w' = w.drewN n := by
  have m1 : ∀ j, j < 32 → w.cell? ⟨b, o + j, none⟩ = some (.int .u8 (xs.getD j 0)) := fun j hj => h1 j _ (getD_in' (by omega))
  have m2 : ∀ j, j < 32 → w.cell? ⟨c, p + j, none⟩ = some (.int .u8 (ys.getD j 0)) := fun j hj => h2 j _ (getD_in' (by omega))
  obtain ⟨r, hr⟩ : ∃ r : Int, r = if be xs ≤ be ys then 1 else 0 := ⟨_, rfl⟩
  rw [← hr]
  have rlt : ∀ k, k < 32 → (∀ j, j < k → xs.getD j 0 = ys.getD j 0) → xs.getD k 0 < ys.getD k 0 → r = 1 := fun k hk hp hlt => by
    rw [hr, if_pos (Int.le_of_lt (be_lt k xs ys (by omega) (by omega) bx by_ hp hlt))]
  have rgt : ∀ k, k < 32 → (∀ j, j < k → xs.getD j 0 = ys.getD j 0) → ys.getD k 0 < xs.getD k 0 → r = 0 := fun k hk hp hlt => by
    have := be_lt k ys xs (by omega) (by omega) by_ bx (fun j hj => (hp j hj).symm) hlt
    rw [hr, if_neg (by omega)]
  have req : (∀ j, j < 32 → xs.getD j 0 = ys.getD j 0) → r = 1 := fun h => by
    rw [hr, all_eq xs ys hx hy h, if_pos (Int.le_refl _)]
  have H := Lib.hid (And.intro m1 (And.intro m2 (And.intro rlt (And.intro rgt req))))
  clear hx hy bx by_ h1 h2 m1 m2 rlt rgt req hr
  go_enter Try.func56, Try.ntmps56
  go_wp2
  go_loopw [13] (fun i wr => ∃ (k : Nat), k ≤ 32 ∧ i = .int .i64 k ∧ Hid (∀ j, j < k → xs.getD j 0 = ys.getD j 0) ∧ ∃ n, wr = w.drewN n) (fun i _ => 32 - (intOf i).toNat)
  case atStart => exact ⟨0, by omega, rfl, Lib.hid (by simp), 0, rfl⟩
  case round =>
    obtain ⟨k, hk, rfl, HZ, n, rfl⟩ := hrel
    by_cases hlt : k < 32
    · have a1 := H.out.1 k hlt
      have a2 := H.out.2.1 k hlt
      have r1 := H.out.2.2.1 k hlt HZ.out
      have r2 := H.out.2.2.2.1 k hlt HZ.out
      have hnext : xs.getD k 0 = ys.getD k 0 → Hid (∀ j, j < k + 1 → xs.getD j 0 = ys.getD j 0) := fun e => Lib.hid fun j hj => by
        by_cases e' : j = k
        · rw [e']; exact e
        · exact HZ.out j (by omega)
      generalize xs.getD k 0 = x at *
      generalize ys.getD k 0 = y at *
      by_cases e : x = y
      · have hN := hnext e
        clear r1 r2 hnext
        subst e
        go_wp2_with (go_region)
        exact ⟨⟨k + 1, by omega, by go_num, hN, _, rfl⟩, by simp [intOf]; omega⟩
      · by_cases e2 : x < y
        · have := r1 e2
          subst this
          clear r1 r2 hnext
          go_wp2_with (go_region)
          go_ret
          exact ⟨rfl, _, rfl⟩
        · have := r2 (by omega)
          subst this
          clear r1 r2 hnext
          go_wp2_with (go_region)
          go_ret
          exact ⟨rfl, _, rfl⟩
    · obtain rfl : k = 32 := by omega
      have := H.out.2.2.2.2 HZ.out
      subst this
      go_wp2
      go_ret
      exact ⟨rfl, _, rfl⟩
end Go.Proofs.Ytgdjmgcolipcnaa
