/-
  What is proved here: so many times a point, by doubling and adding from the highest bit. No program in sight.
  Conditions: those of each theorem.
-/
import Derived.Test.YtgdjmgcolipcnaaFldAlgAlgB
import Derived.Test.YtgdjmgcolipcnaaProg
import Derived.Test.YtgdjmgcolipcnaaHptPta
import Derived.WalkKit
import Derived.WalkSpells
import Derived.Outline
import Derived.Handy
import Derived.ProofKit
import Derived.Deep.QuietTactic
import Derived.BigQuiet
import Derived.Lib.Hide
import Derived.OpenShut
import Derived.Test.YtgdjmgcolipcnaaEleElo
import Derived.Test.YtgdjmgcolipcnaaSum
import Derived.Test.YtgdjmgcolipcnaaLawPLawQ
namespace Go.Proofs.Ytgdjmgcolipcnaa
open Ecp

/-- n times p, by doubling and adding. -/
def pm (n : Nat) (p : Pt) : Pt :=
  if h : n = 0 then .far else if n % 2 = 1 then psum (psum (pm (n / 2) p) (pm (n / 2) p)) p else psum (pm (n / 2) p) (pm (n / 2) p)
termination_by n
decreasing_by all_goals omega
theorem pm_zero (p : Pt) : pm 0 p = .far := by unfold pm; rw [dif_pos rfl]
theorem pm_even (m : Nat) (p : Pt) : pm (2 * m) p = psum (pm m p) (pm m p) := by
  by_cases h : m = 0
  · subst h
    rw [Nat.mul_zero, pm_zero]
    rfl
  · rw [pm, dif_neg (by omega), if_neg (by omega), show 2 * m / 2 = m by omega]
theorem pm_odd (m : Nat) (p : Pt) : pm (2 * m + 1) p = psum (psum (pm m p) (pm m p)) p := by
  rw [pm, dif_neg (by omega), if_pos (by omega), show (2 * m + 1) / 2 = m by omega]
theorem pm_odd' (m : Nat) (p : Pt) : pm (2 * m + 1) p = psum (pm (2 * m) p) p := by rw [pm_odd, pm_even]
theorem pm_one (p : Pt) : pm 1 p = p := by
  have h := pm_odd 0 p
  rw [pm_zero] at h
  rw [show 2 * 0 + 1 = 1 from rfl] at h
  rw [h]
  cases p <;> rfl
theorem pm_step (K i : Nat) (p : Pt) : pm (K / 2 ^ i) p = if K / 2 ^ i % 2 = 1 then psum (psum (pm (K / 2 ^ (i + 1)) p) (pm (K / 2 ^ (i + 1)) p)) p else psum (pm (K / 2 ^ (i + 1)) p) (pm (K / 2 ^ (i + 1)) p) := by
  have h : K / 2 ^ (i + 1) = K / 2 ^ i / 2 := by rw [Nat.pow_succ, Nat.div_div_eq_div_mul]
  rw [h]
  generalize K / 2 ^ i = m
  by_cases hb : m % 2 = 1
  · rw [if_pos hb, ← pm_odd]; congr 1; omega
  · rw [if_neg hb, ← pm_even]; congr 1; omega
theorem pm_on (n : Nat) {p : Pt} (hp : p.on) : (pm n p).on := by
  induction n using Nat.strongRecOn with
  | _ n ih =>
    by_cases h : n = 0
    · subst h; rw [pm_zero]; trivial
    · have := ih (n / 2) (by omega)
      rw [pm, dif_neg h]
      split
      · exact psum_on (psum_on this this) hp
      · exact psum_on this this
end Go.Proofs.Ytgdjmgcolipcnaa
/-
  What is proved here: what the table of sixteen multiples holds, and what is selected out of it.
  Conditions: those of each theorem.
-/
namespace Go.Proofs.Ytgdjmgcolipcnaa
open Go Go.RowKit Ecp
set_option linter.unusedSimpArgs false
set_option linter.unusedVariables false

/-- The table holds the multiples up to k. -/
def TabS (w : World) (tb k : Nat) (p : Pt) : Prop := ∀ j, j < k → Hp w tb (j * 12) (pm (j + 1) p)
/-- What stands between the calls that fill the table. -/
structure TabW (w wr : World) (tb b k : Nat) (p : Pt) : Prop where
  trn : Turned tb 0 192 w wr
  ht : tb < w.heap.size
  hb : b < w.heap.size
  ne : b ≠ tb
  free : Free wr tb 0 192
  q : Hp wr b 0 p
  tab : TabS wr tb k p
theorem TabW.lt {w wr : World} {tb b k : Nat} {p : Pt} (h : TabW w wr tb b k p) : tb < wr.heap.size := h.trn.lt h.ht
theorem TabW.lb {w wr : World} {tb b k : Nat} {p : Pt} (h : TabW w wr tb b k p) : b < wr.heap.size := h.trn.lt h.hb
theorem TabW.step {w wr w' : World} {tb b k : Nat} {p : Pt} (h : TabW w wr tb b k p) (hk : k < 16) (hT : Turned tb (k * 12) 12 wr w') (hP : Hp w' tb (k * 12) (pm (k + 1) p)) (hF : ∀ c k len, c < wr.heap.size → Free wr c k len → Free w' c k len) : TabW w w' tb b (k + 1) p where
  trn := h.trn.trans (hT.part (by omega) (by omega))
  ht := h.ht
  hb := h.hb
  ne := h.ne
  free := hF _ _ _ h.lt h.free
  q := h.q.far hT h.lb (.inl h.ne)
  tab := fun j hj => by
    by_cases e : j = k
    · subst e; exact hP
    · exact (h.tab j (by omega)).far hT h.lt (.inr (.inl (by omega)))
theorem Turned.drew {b o len : Nat} {u v : World} (h : Turned b o len u v) : Turned b o len u v.drew := ⟨h.away, h.keep, h.frz⟩
theorem TabW.drewN {w wr : World} {tb b k : Nat} {p : Pt} (h : TabW w wr tb b k p) (n : Nat) : TabW w (wr.drewN n) tb b k p := ⟨h.trn.drewN n, h.ht, h.hb, h.ne, h.free, h.q, h.tab⟩
theorem tab_dbl {w wr : World} {tb b m : Nat} {p : Pt} (h : TabW w wr tb b (2 * m + 1) p) (hm : m < 8) :
    Calls Try.prog 31 #[.pointer (some ⟨tb, (2 * m + 1) * 12, none⟩), .pointer (some ⟨tb, (2 * m + 1) / 2 * 12, none⟩)] wr fun e w' => e = .returned (.pointer (some ⟨tb, (2 * m + 1) * 12, none⟩)) ∧ TabW w w' tb b (2 * m + 1 + 1) p := by
  have e1 : (2 * m + 1) / 2 = m := by omega
  rw [e1]
  have ha : Apart tb ((2 * m + 1) * 12) tb (m * 12) 12 := by unfold Apart; omega
  refine (DoubleHp tb _ tb _ (pm (m + 1) p) wr h.lt h.lt (h.free.sub (by omega) (by omega)) (h.tab m (by omega)) ha).mono ?_
  rintro e w2 ⟨rfl, hT, hP, hF⟩
  rw [← pm_even, show 2 * (m + 1) = 2 * m + 1 + 1 by omega] at hP
  exact ⟨rfl, h.step (by omega) hT hP hF⟩
theorem tab_add {w wr : World} {tb b m : Nat} {p : Pt} (h : TabW w wr tb b (2 * m + 1 + 1) p) (hm : m < 7) :
    Calls Try.prog 33 #[.pointer (some ⟨tb, (2 * m + 1 + 1) * 12, none⟩), .pointer (some ⟨tb, (2 * m + 1) * 12, none⟩), .pointer (some ⟨b, 0, none⟩)] wr fun e w' => e = .returned (.pointer (some ⟨tb, (2 * m + 1 + 1) * 12, none⟩)) ∧ TabW w w' tb b (2 * m + 1 + 1 + 1) p := by
  have ha : Apart tb ((2 * m + 1 + 1) * 12) tb ((2 * m + 1) * 12) 12 := by unfold Apart; omega
  refine (AddHp tb _ tb _ b 0 (pm (2 * m + 1 + 1) p) p wr h.lt h.lt h.lb (h.free.sub (by omega) (by omega)) (h.tab (2 * m + 1) (by omega)) h.q ha (apart_ne h.ne)).mono ?_
  rintro e w2 ⟨rfl, hT, hP, hF⟩
  have e2 : psum (pm (2 * m + 1 + 1) p) p = pm (2 * m + 1 + 1 + 1) p := by
    rw [show 2 * m + 1 + 1 = 2 * (m + 1) by omega, ← pm_odd']
  rw [e2] at hP
  exact ⟨rfl, h.step (by omega) hT hP hF⟩
set_option maxHeartbeats 4000000 in
set_option maxRecDepth 100000 in
theorem Compute_any (tb b : Nat) (p : Pt) (w : World) (ht : tb < w.heap.size) (hb : b < w.heap.size) (ne : b ≠ tb) (hf : Free w tb 0 192) (hq : Hp w b 0 p) :
    Calls Try.prog 29 #[.pointer (some ⟨tb, 0, none⟩), .pointer (some ⟨b, 0, none⟩)] w fun e w' => e = .returned (.pointer (some ⟨tb, 0, none⟩)) ∧ TabW w w' tb b 16 p := by
  have H := Lib.hid (And.intro ht (And.intro hb (And.intro ne (And.intro hf hq))))
  clear ht hb ne hf hq
  go_enter Try.func29, Try.ntmps29
  go_wp2_with (go_at_call 45; go_must (refine (SetHp tb 0 b 0 p w H.out.1 H.out.2.1 (H.out.2.2.2.1.sub (by decide) (by decide)) H.out.2.2.2.2 (apart_ne H.out.2.2.1)).mono ?_); rintro e w1 ⟨rfl, hT, hP, hF⟩; have H1 := Lib.hid (show TabW w w1 tb b 1 p from ⟨hT.part (by decide) (by decide), H.out.1, H.out.2.1, H.out.2.2.1, hF _ _ _ H.out.1 H.out.2.2.2.1, H.out.2.2.2.2.far hT H.out.2.1 (.inl H.out.2.2.1), fun j hj => (by obtain rfl : j = 0 := (by omega); rw [pm_one]; exact hP)⟩); clear hT hP hF)
  go_loopw [5] (fun i wr => ∃ m : Nat, m ≤ 8 ∧ i = .int .i64 (2 * m + 1 : Nat) ∧ Hid (TabW w wr tb b (if m = 8 then 16 else 2 * m + 1) p)) (fun i _ => 17 - (intOf i).toNat)
  case atStart => exact ⟨0, by decide, rfl, H1⟩
  case round =>
    obtain ⟨m, hm, rfl, HR⟩ := hrel
    by_cases hlt : m < 8
    · rw [if_neg (by omega)] at HR
      have c1 : ((2 * m + 1 : Nat) : Int) < 16 := by omega
      by_cases h7 : m < 7
      · go_wp2_with (first | (refine wp_quiet_tail (l := [_, _, _, _, _, _, _, _, _, _]) 9 (by kernel_rfl) (by kernel_rfl) ?_; simp only [List.take_succ_cons, List.take_zero, List.drop_succ_cons, List.drop_zero]; (repeat (first | go_big_quiet_skip | (go_big_quiet_want; go_big_quiet_op; first | go_big_quiet_on))); refine wpQuiet_nil ?_; intro _ hw'; obtain ⟨nq, hw''⟩ := hw'; subst hw'') | (refine wp_quiet_tail (l := [_, _, _, _, _, _, _, _, _, _, _]) 10 (by kernel_rfl) (by kernel_rfl) ?_; simp only [List.take_succ_cons, List.take_zero, List.drop_succ_cons, List.drop_zero]; (repeat (first | go_big_quiet_skip | (go_big_quiet_want; go_big_quiet_op; first | go_big_quiet_on))); refine wpQuiet_nil ?_; intro _ hw'; obtain ⟨nq, hw''⟩ := hw'; subst hw'') | (go_at_call 31; go_must (with_reducible refine (tab_dbl (HR.out.drewN nq) hlt).mono ?_); rintro e w2 ⟨rfl, h2⟩; have H2 := Lib.hid h2; clear h2) | (go_at_call 33; go_must (with_reducible refine (tab_add (H2.out.drewN nq) h7).mono ?_); rintro e w3 ⟨rfl, h3⟩; have H3 := Lib.hid h3; clear h3))
        refine ⟨⟨m + 1, by omega, by simp; omega, Lib.hid ?_⟩, by simp [intOf]; omega⟩
        rw [if_neg (by omega), show 2 * (m + 1) + 1 = 2 * m + 1 + 1 + 1 by omega]
        exact H3.out
      · have h8 : 7 ≤ m := by omega
        go_wp2_with (first | (refine wp_quiet_tail (l := [_, _, _, _, _, _, _, _, _, _]) 9 (by kernel_rfl) (by kernel_rfl) ?_; simp only [List.take_succ_cons, List.take_zero, List.drop_succ_cons, List.drop_zero]; (repeat (first | go_big_quiet_skip | (go_big_quiet_want; go_big_quiet_op; first | go_big_quiet_on))); refine wpQuiet_nil ?_; intro _ hw'; obtain ⟨nq, hw''⟩ := hw'; subst hw'') | (refine wp_quiet_tail (l := [_, _, _, _, _, _, _, _, _, _, _]) 10 (by kernel_rfl) (by kernel_rfl) ?_; simp only [List.take_succ_cons, List.take_zero, List.drop_succ_cons, List.drop_zero]; (repeat (first | go_big_quiet_skip | (go_big_quiet_want; go_big_quiet_op; first | go_big_quiet_on))); refine wpQuiet_nil ?_; intro _ hw'; obtain ⟨nq, hw''⟩ := hw'; subst hw'') | (go_at_call 31; go_must (with_reducible refine (tab_dbl (HR.out.drewN nq) hlt).mono ?_); rintro e w2 ⟨rfl, h2⟩; have H2 := Lib.hid h2; clear h2))
        refine ⟨⟨m + 1, by omega, by simp; omega, Lib.hid ?_⟩, by simp [intOf]; omega⟩
        rw [if_pos (by omega), show 16 = 2 * m + 1 + 1 by omega]
        exact H2.out
    · obtain rfl : m = 8 := by omega
      rw [if_pos rfl] at HR
      go_wp2
      exact bodyPost_ret (v := .pointer (some ⟨tb, 0, none⟩)) (by simp [results, Try.results29, go_sem]) rfl ⟨rfl, HR.out⟩
theorem CtEq_any (a b : Nat) (w : World) : Calls Try.prog 46 #[.int .u8 (a : Int), .int .u8 (b : Int)] w fun e w' => e = .returned (.int .i64 (if a = b then 1 else 0)) ∧ w' = w := by
  by_cases h : a = b
  · subst h
    rw [if_pos rfl]
    go_enter Try.func46, Try.ntmps46
    go_wp2
    exact bodyPost_ret (v := .int .i64 1) (by simp [results, Try.results46, go_sem]) rfl ⟨rfl, rfl⟩
  · rw [if_neg h]
    have h' : ¬ (a : Int) = (b : Int) := by omega
    go_enter Try.func46, Try.ntmps46
    go_wp2
    exact bodyPost_ret (v := .int .i64 0) (by simp [results, Try.results46, go_sem]) rfl ⟨rfl, rfl⟩
/-- What stands between the calls that select. -/
structure SelW (w wr : World) (tb c k n : Nat) (p : Pt) : Prop where
  trn : Turned c 0 12 w wr
  ht : tb < w.heap.size
  hc : c < w.heap.size
  ne : tb ≠ c
  free : Free wr c 0 12
  r : Hp wr c 0 (pm (if n ≤ k then n else 0) p)
  tab : TabS wr tb 16 p
theorem SelW.lt {w wr : World} {tb c k n : Nat} {p : Pt} (h : SelW w wr tb c k n p) : tb < wr.heap.size := h.trn.lt h.ht
theorem SelW.lc {w wr : World} {tb c k n : Nat} {p : Pt} (h : SelW w wr tb c k n p) : c < wr.heap.size := h.trn.lt h.hc
theorem SelW.step {w wr w' : World} {tb c k n : Nat} {p : Pt} (h : SelW w wr tb c k n p) (hT : Turned c 0 12 wr w') (hP : Hp w' c 0 (pm (if n ≤ k + 1 then n else 0) p)) (hF : ∀ c k len, c < wr.heap.size → Free wr c k len → Free w' c k len) : SelW w w' tb c (k + 1) n p where
  trn := h.trn.trans hT
  ht := h.ht
  hc := h.hc
  ne := h.ne
  free := hF _ _ _ h.lc h.free
  r := hP
  tab := fun j hj => (h.tab j hj).far hT h.lt (.inl h.ne)
theorem sel_one {w wr : World} {tb c k n : Nat} {p : Pt} (h : SelW w wr tb c k n p) (hk : k < 16) : Calls Try.prog 47 #[.pointer (some ⟨c, 0, none⟩), .pointer (some ⟨tb, k * 12, none⟩), .pointer (some ⟨c, 0, none⟩), .int .i64 (if k + 1 = n then 1 else 0)] wr fun e w' => e = .returned (.pointer (some ⟨c, 0, none⟩)) ∧ SelW w w' tb c (k + 1) n p := by
  have hs := SelHp c 0 tb (k * 12) c 0 (pm (k + 1) p) (pm (if n ≤ k then n else 0) p) (decide (k + 1 = n)) wr h.lc h.lt h.lc h.free (h.tab k hk) h.r (apart_ne h.ne) apart_self
  by_cases e : k + 1 = n
  · rw [decide_eq_true e, if_pos rfl, if_pos rfl] at hs
    rw [if_pos e]
    refine hs.mono ?_
    rintro e' w' ⟨rfl, hT, hP, hF⟩
    refine ⟨rfl, h.step hT ?_ hF⟩
    rw [if_pos (by omega), ← e]
    exact hP
  · rw [decide_eq_false e, if_neg Bool.false_ne_true, if_neg Bool.false_ne_true] at hs
    rw [if_neg e]
    refine hs.mono ?_
    rintro e' w' ⟨rfl, hT, hP, hF⟩
    refine ⟨rfl, h.step hT ?_ hF⟩
    have : (if n ≤ k + 1 then n else 0) = (if n ≤ k then n else 0) := by
      by_cases h2 : n ≤ k
      · rw [if_pos h2, if_pos (by omega)]
      · rw [if_neg h2, if_neg (by omega)]
    rw [this]
    exact hP
set_option maxHeartbeats 4000000 in
set_option maxRecDepth 100000 in
theorem TSelect_any (tb c n : Nat) (hn : n ≤ 16) (p : Pt) (w : World) (ht : tb < w.heap.size) (hc : c < w.heap.size) (ne : tb ≠ c) (hf : Free w c 0 12) (htab : TabS w tb 16 p) :
    Calls Try.prog 30 #[.pointer (some ⟨tb, 0, none⟩), .pointer (some ⟨c, 0, none⟩), .int .u8 (n : Int)] w fun e w' => e = .returned (.tuple #[]) ∧ SelW w w' tb c 16 n p := by
  have H := Lib.hid (And.intro ht (And.intro hc (And.intro ne (And.intro hf htab))))
  clear ht hc ne hf htab
  have hn1 : ¬ (n : Int) > 16 := by omega
  go_enter Try.func30, Try.ntmps30
  go_wp2_with (first
    | (go_at_call 16; go_must (refine (NewHp w).mono ?_); rintro e w1 ⟨rfl, hl, hE, hfr, hP⟩; have H1 := Lib.hid (And.intro hl (And.intro hE hP)); clear hl hE hfr hP)
    | (go_at_call 45; go_must (refine (SetHp c 0 w.heap.size 0 .far w1 (H1.out.2.1.lt H.out.2.1) H1.out.1 (H1.out.2.1.free H.out.2.1 H.out.2.2.2.1) H1.out.2.2 (apart_ne (Nat.ne_of_gt H.out.2.1))).mono ?_); rintro e w2 ⟨rfl, hT, hP, hF⟩; have hTT : Turned c 0 12 w w2 := ((Turned.refl _ _ _ _).ext_on H.out.2.1 H1.out.2.1).trans hT; have H2 := Lib.hid (show SelW w w2 tb c 0 n p from ⟨hTT, H.out.1, H.out.2.1, H.out.2.2.1, hF _ _ _ (H1.out.2.1.lt H.out.2.1) (H1.out.2.1.free H.out.2.1 H.out.2.2.2.1), (by have e0 : (if n ≤ 0 then n else 0) = 0 := (by split <;> omega); rw [e0, pm_zero]; exact hP), fun j hj => (H.out.2.2.2.2 j hj).far hTT H.out.1 (.inl H.out.2.2.1)⟩); clear hT hP hF hTT))
  go_loopw [6] (fun i wr => ∃ k : Nat, k ≤ 16 ∧ i = .int .u8 (k + 1 : Nat) ∧ Hid (SelW w wr tb c k n p)) (fun i _ => 17 - (intOf i).toNat)
  case atStart => exact ⟨0, by decide, rfl, H2⟩
  case round =>
    obtain ⟨k, hk, rfl, HR⟩ := hrel
    by_cases hlt : k < 16
    · have c1 : ((k + 1 : Nat) : Int) ≤ 16 := by omega
      obtain ⟨V, hV⟩ : ∃ V : Int, V = if k + 1 = n then 1 else 0 := ⟨_, rfl⟩
      have hC : ∀ w, Calls Try.prog 46 #[.int .u8 ((k : Int) + 1), .int .u8 (n : Int)] w fun e w' => e = .returned (.int .i64 (if k + 1 = n then 1 else 0)) ∧ w' = w := CtEq_any (k + 1) n
      have HC := Lib.hid hC
      clear hC
      have HS := Lib.hid (sel_one HR.out hlt)
      rw [← hV] at HC HS
      clear hV
      go_wp2_with (first
        | (go_at_call 46; go_must (with_reducible refine (HC.out _).mono ?_); rintro e w3 ⟨rfl, hw3⟩; subst hw3)
        | (go_at_call 47; go_must (with_reducible refine HS.out.mono ?_); rintro e w4 ⟨rfl, h4⟩; have H4 := Lib.hid h4; clear h4))
      exact ⟨⟨k + 1, by omega, by first | simp | (simp; omega), H4⟩, by first | (simp [intOf]; omega) | simp [intOf]⟩
    · obtain rfl : k = 16 := by omega
      go_wp2
      exact bodyPost_end (results_none rfl _ _ _) rfl ⟨rfl, HR.out⟩
/-- The zero table. -/
def ztab : Array Value := (List.replicate 192 (Value.int .u64 0)).toArray
set_option maxRecDepth 100000 in
theorem zeroTab : ∀ w, (zeroValue 76).run Try.prog w = .ok (.agg ztab) w := (zero_of_info (P := Try.prog) (n := 192) (by kernel_rfl)).1
theorem free_ztab (w : World) : Free (w.alloc (.cells ztab 76)) w.heap.size 0 192 := Free.zero (len := 192) _ (heap_at w (.cells ztab 76) _ rfl)
attribute [irreducible] ztab
end Go.Proofs.Ytgdjmgcolipcnaa
/-
  What is proved here: what the reference's Multiple returns.
  Conditions: those of each theorem.
-/
namespace Go.Proofs.Ytgdjmgcolipcnaa
open Go Go.RowKit Ecp
set_option linter.unusedSimpArgs false
set_option linter.unusedVariables false

theorem pv_size (P : Pt) : (pv P).size = 17 := by obtain ⟨f, X, Y, h⟩ := pv_pc P; rw [h, pc_size]
theorem pv_one (P : Pt) : (pv P).all (·.oneCell') = true := by obtain ⟨f, X, Y, h⟩ := pv_pc P; rw [h, pc_one]
theorem inPv (P : Pt) : (Try.prog.info? 28).map (·.size) = some (pv P).size := by obtain ⟨f, X, Y, h⟩ := pv_pc P; rw [h]; exact inP _ _ _
theorem and_one8 (c : Nat) : bits BinOp.and IntKind.u8 (c : Int) 1 = ((c % 2 : Nat) : Int) := by
  have e : (BitVec.ofInt 8 (c : Int) &&& BitVec.ofInt 8 1).toNat = c % 2 := by
    rw [BitVec.toNat_and]
    have h1 : (BitVec.ofInt 8 1).toNat = 1 := by decide
    have h2 : (BitVec.ofInt 8 (c : Int)).toNat = c % 256 := by simp [BitVec.toNat_ofInt]
    rw [h1, h2, show (1 : Nat) = 2 ^ 1 - 1 from rfl, Nat.and_two_pow_sub_one_eq_mod]
    omega
  show IntKind.u8.wrap (((BitVec.ofInt 8 (c : Int) &&& BitVec.ofInt 8 1).toNat : Nat) : Int) = _
  rw [e]
  simp [IntKind.wrap, IntKind.signed, IntKind.bits]
  omega
theorem bds_at : ∀ (k : Nat) (S : Int) (i : Nat), i < k → (bds k S).getD i 0 = S / 256 ^ i % 256
  | 0, _, _, h => absurd h (Nat.not_lt_zero _)
  | k + 1, S, 0, _ => by simp [bds]
  | k + 1, S, i + 1, h => by
    rw [bds, List.getD_cons_succ, bds_at k _ i (by omega), Int.pow_succ, Int.mul_comm, ← Int.ediv_ediv_of_nonneg (by decide)]
theorem cell_bc {w : World} {b : Nat} {S : Int} {t : TypeId} {fr : Nat × Nat} (h : w.heap[b]? = some (.cells (bc S) t fr)) (i : Nat) (hi : i < 32) : w.cell? ⟨b, i, none⟩ = some (.int .u8 (S / 256 ^ (31 - i) % 256)) := by
  rw [cell_of_row w b i _ t fr h, bc_at S i hi]
  congr 2
  rw [← bds_at 32 S (31 - i) (by omega)]
  have hl : (bds 32 S).length = 32 := bds_length _ _
  simp only [List.getD_eq_getElem?_getD]
  rw [List.getElem?_reverse (by omega), hl]
theorem byte_nat (K i : Nat) (hi : i < 256) : K / 256 ^ (31 - i / 8) % 256 / 2 ^ (7 - i % 8) % 2 = K / 2 ^ (255 - i) % 2 := by
  rw [show (256 : Nat) = 2 ^ 8 from rfl, ← Nat.pow_mul]
  have h1 : ∀ a b : Nat, a % 2 < 2 → b % 2 < 2 → (a % 2 = 1 ↔ b % 2 = 1) → a % 2 = b % 2 := fun a b _ _ h => by omega
  refine h1 _ _ (by omega) (by omega) ?_
  have t : ∀ n r : Nat, n / 2 ^ r % 2 = 1 ↔ n.testBit r = true := fun n r => by rw [Nat.testBit_eq_decide_div_mod_eq]; simp
  rw [t, t, Nat.testBit_mod_two_pow, Nat.testBit_div_two_pow, show 7 - i % 8 + 8 * (31 - i / 8) = 255 - i by omega]
  simp; omega
theorem byte_cond (B r : Nat) : (bits BinOp.and IntKind.u8 ((B : Int) / 2 ^ r) 1 == 1) = decide (B / 2 ^ r % 2 = 1) := by
  have e : (B : Int) / 2 ^ r = ((B / 2 ^ r : Nat) : Int) := by simp only [Int.natCast_ediv, Int.natCast_pow]; rfl
  rw [e, and_one8]
  by_cases h : B / 2 ^ r % 2 = 1
  · rw [h]; rfl
  · rw [show B / 2 ^ r % 2 = 0 by omega]; rfl
/-- What stands between the rounds. -/
structure MlS (w wr : World) (m : Nat) (K : Int) (P Q : Pt) : Prop where
  ext : Ext w wr
  hm : w.heap.size + 3 ≤ m
  k : wr.heap[w.heap.size]? = some (.cells (bc K) 22 (0, 0))
  q : wr.heap[w.heap.size + 1]? = some (.cells (pv Q) 28 (0, 0))
  r : ∃ v, v.size = 17 ∧ wr.heap[w.heap.size + 1 + 1]? = some (.cells v 28 (0, 0))
  o : wr.heap[m]? = some (.cells (pv P) 28 (0, 0))
theorem MlS.step {w wr w' : World} {m : Nat} {K : Int} {P Q : Pt} (h : MlS w wr m K P Q) (hE : Ext wr w') (P' : Pt) : MlS w (w'.setRow m (pv P')) m K P' Q where
  ext := (h.ext.trans hE).setRow (by have := h.hm; omega) _
  hm := h.hm
  k := by rw [setRow_other _ _ _ _ (by have := h.hm; omega)]; exact ext_heap hE h.k
  q := by rw [setRow_other _ _ _ _ (by have := h.hm; omega)]; exact ext_heap hE h.q
  r := by
    obtain ⟨v, hv, hr⟩ := h.r
    exact ⟨v, hv, by rw [setRow_other _ _ _ _ (by have := h.hm; omega)]; exact ext_heap hE hr⟩
  o := setRow_heap _ _ _ _ _ _ (ext_heap hE h.o)
set_option maxHeartbeats 4000000 in
set_option maxRecDepth 100000 in
theorem Multiple_row (K : Nat) (hK : (K : Int) < R256) (Q : Pt) (w : World) : Calls Try.prog 7 #[.agg (bc (K : Int)), .agg (pv Q)] w fun e w' => e = .returned (.agg (pv (pm K Q))) ∧ Ext w w' := by
  have hBF := builtF
  rw [show pc true ((0 : Fp).val : Int) ((0 : Fp).val : Int) = pv .far from rfl] at hBF
  have HBF := Lib.hid hBF
  have HK := Lib.hid hK
  clear hBF hK
  obtain ⟨f2, X2, Y2, hq⟩ := pv_pc Q
  obtain ⟨f0, X0, Y0, h0⟩ := pv_pc .far
  have HQ := Lib.hid hq
  have H0 := Lib.hid h0
  rw [h0] at HBF
  rw [hq]
  clear hq h0
  go_enter Try.func7, Try.ntmps7
  go_wp2_with (first | (refine wpList_buildW rfl _ _ rfl _ (by rw [Array.toList_map]; exact HBF.out) ?_) | (refine wpList_store_rowW rfl 28 _ _ rfl _ _ rfl rfl _ _ (by (with_reducible first | assumption | (simp only [hsA, setRow_heap]; first | done | rfl) | (repeat (first | assumption | (refine heap_at _ _ _ ?_; simp only [hsA, setRow_heap]; done) | refine ext_row (Ext.al _ _) ?_ | refine ext_row (Ext.gr _ _) ?_ | refine ext_row (by assumption) ?_)))) (inP _ _ _) (by simp only [ec_size, bc_size, pc_size, tc_size, ec_size, bc_size, pc_size, tc_size]; try rfl) (pc_one _ _ _) ?_; (try simp only [nmA])))
  have hP0 : MlS w ((((w.alloc (.cells (bc (K : Int)) 22)).alloc (.cells (pc f2 X2 Y2) 28)).alloc (.cells #[.bool false, .int .i64 0, .int .i64 0, .int .i64 0, .int .i64 0, .int .i64 0, .int .i64 0, .int .i64 0, .int .i64 0, .int .i64 0, .int .i64 0, .int .i64 0, .int .i64 0, .int .i64 0, .int .i64 0, .int .i64 0, .int .i64 0] 28)).alloc (.cells (pc f0 X0 Y0) 28)) (w.heap.size + 1 + 1 + 1) (K : Int) .far Q := by
    refine ⟨by (repeat (first | exact Ext.refl _ | assumption | exact hE6 .. | refine Ext.trans ?_ (Ext.al _ _) | refine Ext.trans ?_ (Ext.gr _ _) | refine Ext.trans ?_ (by with_reducible assumption) | refine Ext.setRow ?_ (by first | omega | (simp <;> omega)) _)), by omega, ?_, ?_, ?_, ?_⟩
    · (with_reducible first | assumption | (simp only [hsA, setRow_heap]; first | done | rfl) | (repeat (first | assumption | (refine heap_at _ _ _ ?_; simp only [hsA, setRow_heap]; done) | refine ext_row (Ext.al _ _) ?_ | refine ext_row (Ext.gr _ _) ?_ | refine ext_row (by assumption) ?_)))
    · rw [HQ.out]; (with_reducible first | assumption | (simp only [hsA, setRow_heap]; first | done | rfl) | (repeat (first | assumption | (refine heap_at _ _ _ ?_; simp only [hsA, setRow_heap]; done) | refine ext_row (Ext.al _ _) ?_ | refine ext_row (Ext.gr _ _) ?_ | refine ext_row (by assumption) ?_)))
    · exact ⟨#[.bool false, .int .i64 0, .int .i64 0, .int .i64 0, .int .i64 0, .int .i64 0, .int .i64 0, .int .i64 0, .int .i64 0, .int .i64 0, .int .i64 0, .int .i64 0, .int .i64 0, .int .i64 0, .int .i64 0, .int .i64 0, .int .i64 0], rfl, by (with_reducible first | assumption | (simp only [hsA, setRow_heap]; first | done | rfl) | (repeat (first | assumption | (refine heap_at _ _ _ ?_; simp only [hsA, setRow_heap]; done) | refine ext_row (Ext.al _ _) ?_ | refine ext_row (Ext.gr _ _) ?_ | refine ext_row (by assumption) ?_)))⟩
    · rw [H0.out]; (with_reducible first | assumption | (simp only [hsA, setRow_heap]; first | done | rfl) | (repeat (first | assumption | (refine heap_at _ _ _ ?_; simp only [hsA, setRow_heap]; done) | refine ext_row (Ext.al _ _) ?_ | refine ext_row (Ext.gr _ _) ?_ | refine ext_row (by assumption) ?_)))
  have HP0 := Lib.hid hP0
  clear hP0
  obtain ⟨m, hm⟩ : ∃ m, m = w.heap.size + 1 + 1 + 1 := ⟨_, rfl⟩
  simp only [← hm] at HP0 ⊢
  clear hm
  go_loopw [6] (fun i wr => ∃ j : Nat, j ≤ 256 ∧ i = .int .i64 j ∧ Hid (MlS w wr m (K : Int) (pm (K / 2 ^ (256 - j)) Q) Q)) (fun i _ => 256 - (intOf i).toNat)
  case atStart =>
    refine ⟨0, by decide, rfl, Lib.hid ?_⟩
    rw [Nat.div_eq_of_lt (by have := HK.out; simp only [R256] at this; omega), pm_zero]
    exact HP0.out
  case round =>
    obtain ⟨j, hj, rfl, HR⟩ := hrel
    have c1 := HR.out.o
    by_cases hlt : j < 256
    · have hlt' : (j : Int) < 256 := by omega
      have HF := Lib.hid (pm_step K (255 - j) Q)
      rw [show 255 - j + 1 = 256 - j by omega] at HF
      obtain ⟨B, hB⟩ : ∃ B : Nat, B = K / 256 ^ (31 - j / 8) % 256 := ⟨_, rfl⟩
      have HB := Lib.hid (show B / 2 ^ (7 - j % 8) % 2 = K / 2 ^ (255 - j) % 2 by rw [hB]; exact byte_nat K j hlt)
      have hBI : (K : Int) / 256 ^ (31 - j / 8) % 256 = (B : Int) := by
        rw [hB]
        simp only [Int.natCast_ediv, Int.natCast_emod, Int.natCast_pow]
        rfl
      have hB2 : B < 256 := by rw [hB]; exact Nat.mod_lt _ (by decide)
      have hcell : ∀ (u : World) (P' : Pt), MlS w u m (K : Int) P' Q → u.cell? ⟨w.heap.size, j / 8, none⟩ = some (.int .u8 (B : Int)) := fun u P' h => by rw [← hBI]; exact cell_bc h.k (j / 8) (by omega)
      have HC := Lib.hid hcell
      clear hB hBI hcell
      obtain ⟨O, hO⟩ : ∃ O, O = pm (K / 2 ^ (256 - j)) Q := ⟨_, rfl⟩
      rw [← hO] at c1 HF
      have HR2 := Lib.hid (show MlS w wr m (K : Int) O Q by rw [hO]; exact HR.out)
      clear HR hO
      have HS1 := Lib.hid (Sum_any O O)
      have HS2 := Lib.hid (Sum_any (psum O O) Q)
      by_cases hb : K / 2 ^ (255 - j) % 2 = 1
      · rw [if_pos hb] at HF
        have hbc : (bits BinOp.and IntKind.u8 ((B : Int) / 2 ^ (7 - j % 8)) 1 == 1) = true := by rw [byte_cond]; exact decide_eq_true (HB.out.trans hb)
        clear hb
        go_wp2_with (first | (have hy := c4; go_at_call 19; (with_reducible refine (HS2.out _).mono ?_); rintro e w2 ⟨rfl, hE2⟩; have c6 := ext_heap hE2 (c4 _)) | (go_at_call 19; (with_reducible refine (HS1.out wr).mono ?_); rintro e w1 ⟨rfl, hE1⟩; have c2 := ext_heap hE1 HR2.out.o; have c3 : ∀ o', (w1.setRow m (pv o')).cell? ⟨w.heap.size, j / 8, none⟩ = some (.int .u8 (B : Int)) := fun o' => HC.out _ _ (HR2.out.step hE1 o'); have c4 := fun o' => (HR2.out.step hE1 o').o; have c5 := fun o' => (HR2.out.step hE1 o').q) | (refine wpList_store_rowW rfl 28 _ _ rfl _ _ rfl rfl _ _ c6 (inPv _) (by simp only [pv_size]) (pv_one _) ?_) | (refine wpList_store_rowW rfl 28 _ _ rfl _ _ rfl rfl _ _ c2 (inPv _) (by simp only [pv_size]) (pv_one _) ?_) | (refine wpList_load_rowW rfl 28 _ rfl _ rfl _ _ _ _ c1 Try.underlying28 rfl (inPv _) ?_) | (refine wpList_load_rowW rfl 28 _ rfl _ rfl _ _ _ _ (c4 _) Try.underlying28 rfl (inPv _) ?_) | (refine wpList_load_rowW rfl 28 _ rfl _ rfl _ _ _ _ (c5 _) Try.underlying28 rfl (inPv _) ?_))
        have hfin := (HR2.out.step hE1 (psum O O)).step hE2 (psum (psum O O) Q)
        rw [← HF.out] at hfin ⊢
        exact ⟨⟨j + 1, by omega, by first | simp | (simp; omega), Lib.hid (by rw [show 256 - (j + 1) = 255 - j by omega]; exact hfin)⟩, by first | (simp [intOf]; omega) | simp [intOf]⟩
      · rw [if_neg hb] at HF
        have hbc : (bits BinOp.and IntKind.u8 ((B : Int) / 2 ^ (7 - j % 8)) 1 == 1) = false := by rw [byte_cond]; exact decide_eq_false (fun h => hb (HB.out.symm.trans h))
        clear hb
        go_wp2_with (first | (go_at_call 19; (with_reducible refine (HS1.out wr).mono ?_); rintro e w1 ⟨rfl, hE1⟩; have c2 := ext_heap hE1 HR2.out.o; have c3 : ∀ o', (w1.setRow m (pv o')).cell? ⟨w.heap.size, j / 8, none⟩ = some (.int .u8 (B : Int)) := fun o' => HC.out _ _ (HR2.out.step hE1 o'); have c4 := fun o' => (HR2.out.step hE1 o').o; have c5 := fun o' => (HR2.out.step hE1 o').q) | (refine wpList_store_rowW rfl 28 _ _ rfl _ _ rfl rfl _ _ c2 (inPv _) (by simp only [pv_size]) (pv_one _) ?_) | (refine wpList_load_rowW rfl 28 _ rfl _ rfl _ _ _ _ c1 Try.underlying28 rfl (inPv _) ?_))
        have hfin := HR2.out.step hE1 (psum O O)
        rw [← HF.out] at hfin ⊢
        exact ⟨⟨j + 1, by omega, by first | simp | (simp; omega), Lib.hid (by rw [show 256 - (j + 1) = 255 - j by omega]; exact hfin)⟩, by first | (simp [intOf]; omega) | simp [intOf]⟩
    · obtain rfl : j = 256 := by omega
      obtain ⟨v, hv, hr⟩ := HR.out.r
      rw [show K / 2 ^ (256 - 256) = K by simp] at c1
      have HX := Lib.hid HR.out.ext
      have HM := Lib.hid HR.out.hm
      clear HR
      go_wp2_with (first | (refine wpList_load_rowW rfl 28 _ rfl _ rfl _ _ _ _ c1 Try.underlying28 rfl (inPv _) ?_) | (refine wpList_store_rowW rfl 28 _ _ rfl _ _ rfl rfl _ _ hr (inPv _) (by rw [pv_size]; exact hv) (pv_one _) ?_))
      refine bodyPost_ret (results_cell_row rfl _ _ _ 28 _ (0, 0) _ rfl (setRow_heap _ _ _ _ _ _ hr) Try.underlying28 rfl (inPv _)) rfl ⟨rfl, ?_⟩
      exact HX.out.setRow (by omega) _
end Go.Proofs.Ytgdjmgcolipcnaa
