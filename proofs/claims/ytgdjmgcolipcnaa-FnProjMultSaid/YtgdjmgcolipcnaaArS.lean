/-
  What is proved here: plain laws of the words that the engine names: sums, differences, bytes and choices modulo the prime. No program in sight.
  Conditions: those of each theorem.
-/
import Derived.Test.YtgdjmgcolipcnaaArM
namespace Go.Proofs.Ytgdjmgcolipcnaa
open Go Go.RowKit
set_option linter.unusedSimpArgs false
set_option linter.unusedVariables false

noncomputable def defs_add : List Ex := [.cmov (.v 25) (.v 22) (.v 14), .cmov (.v 25) (.v 20) (.v 12), .cmov (.v 25) (.v 18) (.v 10), .cmov (.v 25) (.v 16) (.v 8), .subHi (.v 15) (.c 0) (.v 23), .subLo (.v 15) (.c 0) (.v 23), .subHi (.v 14) (.c 18446744069414584321) (.v 21), .subLo (.v 14) (.c 18446744069414584321) (.v 21), .subHi (.v 12) (.c 0) (.v 19), .subLo (.v 12) (.c 0) (.v 19), .subHi (.v 10) (.c 4294967295) (.v 17), .subLo (.v 10) (.c 4294967295) (.v 17), .subHi (.v 8) (.c 18446744073709551615) (.c 0), .subLo (.v 8) (.c 18446744073709551615) (.c 0), .addHi (.v 3) (.v 7) (.v 13), .addLo (.v 3) (.v 7) (.v 13), .addHi (.v 2) (.v 6) (.v 11), .addLo (.v 2) (.v 6) (.v 11), .addHi (.v 1) (.v 5) (.v 9), .addLo (.v 1) (.v 5) (.v 9), .addHi (.v 0) (.v 4) (.c 0), .addLo (.v 0) (.v 4) (.c 0)]

theorem add_l (x0 x1 x2 x3 x4 x5 x6 x7 x8 x9 x10 x11 x12 x13 x14 x15 : Int) (h0 : x8 + 18446744073709551616 * x9 = x0 + x4 + 0) (h1 : x10 + 18446744073709551616 * x11 = x1 + x5 + x9) (h2 : x12 + 18446744073709551616 * x13 = x2 + x6 + x11) (h3 : x14 + 18446744073709551616 * x15 = x3 + x7 + x13) :
    (x0 + 18446744073709551616 * x1 + 340282366920938463463374607431768211456 * x2 + 6277101735386680763835789423207666416102355444464034512896 * x3) + (x4 + 18446744073709551616 * x5 + 340282366920938463463374607431768211456 * x6 + 6277101735386680763835789423207666416102355444464034512896 * x7) = (x8 + 18446744073709551616 * x10 + 340282366920938463463374607431768211456 * x12 + 6277101735386680763835789423207666416102355444464034512896 * x14) + 115792089237316195423570985008687907853269984665640564039457584007913129639936 * x15 := by omega
theorem add_s (x8 x10 x12 x14 x15 x16 x17 x18 x19 x20 x21 x22 x23 x24 x25 : Int) (h0 : x16 - 18446744073709551616 * x17 = x8 - 18446744073709551615 - 0) (h1 : x18 - 18446744073709551616 * x19 = x10 - 4294967295 - x17) (h2 : x20 - 18446744073709551616 * x21 = x12 - 0 - x19) (h3 : x22 - 18446744073709551616 * x23 = x14 - 18446744069414584321 - x21) (h4 : x24 - 18446744073709551616 * x25 = x15 - 0 - x23) :
    (x16 + 18446744073709551616 * x18 + 340282366920938463463374607431768211456 * x20 + 6277101735386680763835789423207666416102355444464034512896 * x22) = (x8 + 18446744073709551616 * x10 + 340282366920938463463374607431768211456 * x12 + 6277101735386680763835789423207666416102355444464034512896 * x14) - 115792089210356248762697446949407573530086143415290314195533631308867097853951 + 115792089237316195423570985008687907853269984665640564039457584007913129639936 * x23 ∧ x24 - 18446744073709551616 * x25 = x15 - x23 := by omega
theorem add_T (A Y T : Int) (hA : 0 ≤ A ∧ A < 115792089210356248762697446949407573530086143415290314195533631308867097853951) (hY : 0 ≤ Y ∧ Y < 115792089210356248762697446949407573530086143415290314195533631308867097853951) (h : A + Y = T) : 0 ≤ T ∧ T < 231584178420712497525394893898815147060172286830580628391067262617734195707902 := by omega
theorem add_x (a b : Int) (h : a = b) : a = b + 0 * 115792089210356248762697446949407573530086143415290314195533631308867097853951 := by omega
theorem add_y (a b : Int) (h : a = b - 115792089210356248762697446949407573530086143415290314195533631308867097853951) : a = b + (-1) * 115792089210356248762697446949407573530086143415290314195533631308867097853951 := by omega
set_option maxHeartbeats 1000000 in
theorem arith_add (ρ : Nat → Int) (hb : ∀ i, i < 30 → 0 ≤ ρ i ∧ ρ i < 18446744073709551616) (hd : ∀ i x, i < 30 → defs_add[30 - 1 - i]? = some x → ρ i = ev ρ x) (hA : 0 ≤ (ρ 0 + 18446744073709551616 * ρ 1 + 340282366920938463463374607431768211456 * ρ 2 + 6277101735386680763835789423207666416102355444464034512896 * ρ 3) ∧ (ρ 0 + 18446744073709551616 * ρ 1 + 340282366920938463463374607431768211456 * ρ 2 + 6277101735386680763835789423207666416102355444464034512896 * ρ 3) < 115792089210356248762697446949407573530086143415290314195533631308867097853951) (hY : 0 ≤ (ρ 4 + 18446744073709551616 * ρ 5 + 340282366920938463463374607431768211456 * ρ 6 + 6277101735386680763835789423207666416102355444464034512896 * ρ 7) ∧ (ρ 4 + 18446744073709551616 * ρ 5 + 340282366920938463463374607431768211456 * ρ 6 + 6277101735386680763835789423207666416102355444464034512896 * ρ 7) < 115792089210356248762697446949407573530086143415290314195533631308867097853951) :
    ∃ q : Int, (ρ 26 + 18446744073709551616 * ρ 27 + 340282366920938463463374607431768211456 * ρ 28 + 6277101735386680763835789423207666416102355444464034512896 * ρ 29) = (ρ 0 + 18446744073709551616 * ρ 1 + 340282366920938463463374607431768211456 * ρ 2 + 6277101735386680763835789423207666416102355444464034512896 * ρ 3) + (ρ 4 + 18446744073709551616 * ρ 5 + 340282366920938463463374607431768211456 * ρ 6 + 6277101735386680763835789423207666416102355444464034512896 * ρ 7) + q * 115792089210356248762697446949407573530086143415290314195533631308867097853951 ∧ 0 ≤ (ρ 26 + 18446744073709551616 * ρ 27 + 340282366920938463463374607431768211456 * ρ 28 + 6277101735386680763835789423207666416102355444464034512896 * ρ 29) ∧ (ρ 26 + 18446744073709551616 * ρ 27 + 340282366920938463463374607431768211456 * ρ 28 + 6277101735386680763835789423207666416102355444464034512896 * ρ 29) < 115792089210356248762697446949407573530086143415290314195533631308867097853951 := by
  have d8 : ρ 8 = (ρ 0 + ρ 4 + 0) % 18446744073709551616 := by have h := hd 8 _ (by decide) rfl; exact h
  have d9 : ρ 9 = (ρ 0 + ρ 4 + 0) / 18446744073709551616 := by have h := hd 9 _ (by decide) rfl; exact h
  have p8 := addp _ _ _ _ _ d8 d9
  have d10 : ρ 10 = (ρ 1 + ρ 5 + ρ 9) % 18446744073709551616 := by have h := hd 10 _ (by decide) rfl; exact h
  have d11 : ρ 11 = (ρ 1 + ρ 5 + ρ 9) / 18446744073709551616 := by have h := hd 11 _ (by decide) rfl; exact h
  have p10 := addp _ _ _ _ _ d10 d11
  have d12 : ρ 12 = (ρ 2 + ρ 6 + ρ 11) % 18446744073709551616 := by have h := hd 12 _ (by decide) rfl; exact h
  have d13 : ρ 13 = (ρ 2 + ρ 6 + ρ 11) / 18446744073709551616 := by have h := hd 13 _ (by decide) rfl; exact h
  have p12 := addp _ _ _ _ _ d12 d13
  have d14 : ρ 14 = (ρ 3 + ρ 7 + ρ 13) % 18446744073709551616 := by have h := hd 14 _ (by decide) rfl; exact h
  have d15 : ρ 15 = (ρ 3 + ρ 7 + ρ 13) / 18446744073709551616 := by have h := hd 15 _ (by decide) rfl; exact h
  have p14 := addp _ _ _ _ _ d14 d15
  have d16 : ρ 16 = (ρ 8 - 18446744073709551615 - 0) % 18446744073709551616 := by have h := hd 16 _ (by decide) rfl; exact h
  have d17 : ρ 17 = if ρ 8 < 18446744073709551615 + 0 then 1 else 0 := by have h := hd 17 _ (by decide) rfl; exact h
  have t17 := bitp _ _ _ _ d17
  have p16 := subp _ _ _ _ _ (hb 8 (by decide)) (by decide) (.inl rfl) d16 d17
  have d18 : ρ 18 = (ρ 10 - 4294967295 - ρ 17) % 18446744073709551616 := by have h := hd 18 _ (by decide) rfl; exact h
  have d19 : ρ 19 = if ρ 10 < 4294967295 + ρ 17 then 1 else 0 := by have h := hd 19 _ (by decide) rfl; exact h
  have t19 := bitp _ _ _ _ d19
  have p18 := subp _ _ _ _ _ (hb 10 (by decide)) (by decide) t17 d18 d19
  have d20 : ρ 20 = (ρ 12 - 0 - ρ 19) % 18446744073709551616 := by have h := hd 20 _ (by decide) rfl; exact h
  have d21 : ρ 21 = if ρ 12 < 0 + ρ 19 then 1 else 0 := by have h := hd 21 _ (by decide) rfl; exact h
  have t21 := bitp _ _ _ _ d21
  have p20 := subp _ _ _ _ _ (hb 12 (by decide)) (by decide) t19 d20 d21
  have d22 : ρ 22 = (ρ 14 - 18446744069414584321 - ρ 21) % 18446744073709551616 := by have h := hd 22 _ (by decide) rfl; exact h
  have d23 : ρ 23 = if ρ 14 < 18446744069414584321 + ρ 21 then 1 else 0 := by have h := hd 23 _ (by decide) rfl; exact h
  have t23 := bitp _ _ _ _ d23
  have p22 := subp _ _ _ _ _ (hb 14 (by decide)) (by decide) t21 d22 d23
  have d24 : ρ 24 = (ρ 15 - 0 - ρ 23) % 18446744073709551616 := by have h := hd 24 _ (by decide) rfl; exact h
  have d25 : ρ 25 = if ρ 15 < 0 + ρ 23 then 1 else 0 := by have h := hd 25 _ (by decide) rfl; exact h
  have t25 := bitp _ _ _ _ d25
  have p24 := subp _ _ _ _ _ (hb 15 (by decide)) (by decide) t23 d24 d25
  have d26 : ρ 26 = if ρ 25 = 0 then ρ 16 else ρ 8 := by have h := hd 26 _ (by decide) rfl; exact h
  have d27 : ρ 27 = if ρ 25 = 0 then ρ 18 else ρ 10 := by have h := hd 27 _ (by decide) rfl; exact h
  have d28 : ρ 28 = if ρ 25 = 0 then ρ 20 else ρ 12 := by have h := hd 28 _ (by decide) rfl; exact h
  have d29 : ρ 29 = if ρ 25 = 0 then ρ 22 else ρ 14 := by have h := hd 29 _ (by decide) rfl; exact h
  have L := add_l _ _ _ _ _ _ _ _ _ _ _ _ _ _ _ _ p8 p10 p12 p14
  have us := add_s _ _ _ _ _ _ _ _ _ _ _ _ _ _ _ p16 p18 p20 p22 p24
  have hT := add_T _ _ _ hA hY rfl
  have hS := four_bd _ _ _ _ (hb 16 (by decide)) (hb 18 (by decide)) (hb 20 (by decide)) (hb 22 (by decide))
  have hL := four_bd _ _ _ _ (hb 8 (by decide)) (hb 10 (by decide)) (hb 12 (by decide)) (hb 14 (by decide))
  have hc : ρ 23 ≤ 1 := by rcases t23 with g | g <;> rw [g] <;> decide
  rcases t25 with e | e
  · have z : ∀ a b : Int, (if ρ 25 = 0 then a else b) = a := fun a b => by rw [e]; rfl
    rw [z] at d26 d27 d28 d29
    have F := mont_f0 _ _ _ (ρ 15) _ _ _ hT L us.1 hS us.2 (hb 24 (by decide)) e
    rw [d26, d27, d28, d29]
    exact ⟨-1, add_y _ _ F.1, hS.1, F.2⟩
  · have z : ∀ a b : Int, (if ρ 25 = 0 then a else b) = b := fun a b => by rw [e]; rfl
    rw [z] at d26 d27 d28 d29
    have F := mont_f1 _ _ (ρ 15) _ _ _ _ hT L us.1 hS (hb 15 (by decide)).1 hc us.2 (hb 24 (by decide)) e
    rw [d26, d27, d28, d29]
    exact ⟨0, add_x _ _ F.1, hL.1, F.2⟩

noncomputable def defs_sub : List Ex := [.addHi (.v 14) (.v 24) (.v 23), .addLo (.v 14) (.v 24) (.v 23), .bin .and .u64 (.v 16) (.c 18446744069414584321), .addHi (.v 12) (.c 0) (.v 21), .addLo (.v 12) (.c 0) (.v 21), .addHi (.v 10) (.v 19) (.v 18), .addLo (.v 10) (.v 19) (.v 18), .bin .and .u64 (.v 16) (.c 4294967295), .addHi (.v 8) (.v 16) (.c 0), .addLo (.v 8) (.v 16) (.c 0), .cmov (.v 15) (.c 0) (.c 18446744073709551615), .subHi (.v 3) (.v 7) (.v 13), .subLo (.v 3) (.v 7) (.v 13), .subHi (.v 2) (.v 6) (.v 11), .subLo (.v 2) (.v 6) (.v 11), .subHi (.v 1) (.v 5) (.v 9), .subLo (.v 1) (.v 5) (.v 9), .subHi (.v 0) (.v 4) (.c 0), .subLo (.v 0) (.v 4) (.c 0)]

theorem sub_l (x0 x1 x2 x3 x4 x5 x6 x7 x8 x9 x10 x11 x12 x13 x14 x15 : Int) (h0 : x8 - 18446744073709551616 * x9 = x0 - x4 - 0) (h1 : x10 - 18446744073709551616 * x11 = x1 - x5 - x9) (h2 : x12 - 18446744073709551616 * x13 = x2 - x6 - x11) (h3 : x14 - 18446744073709551616 * x15 = x3 - x7 - x13) :
    (x8 + 18446744073709551616 * x10 + 340282366920938463463374607431768211456 * x12 + 6277101735386680763835789423207666416102355444464034512896 * x14) = (x0 + 18446744073709551616 * x1 + 340282366920938463463374607431768211456 * x2 + 6277101735386680763835789423207666416102355444464034512896 * x3) - (x4 + 18446744073709551616 * x5 + 340282366920938463463374607431768211456 * x6 + 6277101735386680763835789423207666416102355444464034512896 * x7) + 115792089237316195423570985008687907853269984665640564039457584007913129639936 * x15 := by omega
theorem sub_0 (x8 x10 x12 x14 x17 x18 x20 x21 x22 x23 x25 x26 : Int) (b8 : 0 ≤ x8 ∧ x8 < 18446744073709551616) (b10 : 0 ≤ x10 ∧ x10 < 18446744073709551616) (b12 : 0 ≤ x12 ∧ x12 < 18446744073709551616) (b14 : 0 ≤ x14 ∧ x14 < 18446744073709551616) (b17 : 0 ≤ x17 ∧ x17 < 18446744073709551616) (b20 : 0 ≤ x20 ∧ x20 < 18446744073709551616) (b22 : 0 ≤ x22 ∧ x22 < 18446744073709551616) (b25 : 0 ≤ x25 ∧ x25 < 18446744073709551616)
    (h0 : x17 + 18446744073709551616 * x18 = x8 + 0 + 0) (h1 : x20 + 18446744073709551616 * x21 = x10 + 0 + x18) (h2 : x22 + 18446744073709551616 * x23 = x12 + 0 + x21) (h3 : x25 + 18446744073709551616 * x26 = x14 + 0 + x23) : (x17 + 18446744073709551616 * x20 + 340282366920938463463374607431768211456 * x22 + 6277101735386680763835789423207666416102355444464034512896 * x25) = (x8 + 18446744073709551616 * x10 + 340282366920938463463374607431768211456 * x12 + 6277101735386680763835789423207666416102355444464034512896 * x14) := by omega
theorem sub_1 (x8 x10 x12 x14 x17 x18 x20 x21 x22 x23 x25 x26 : Int) (h0 : x17 + 18446744073709551616 * x18 = x8 + 18446744073709551615 + 0) (h1 : x20 + 18446744073709551616 * x21 = x10 + 4294967295 + x18) (h2 : x22 + 18446744073709551616 * x23 = x12 + 0 + x21) (h3 : x25 + 18446744073709551616 * x26 = x14 + 18446744069414584321 + x23) :
    (x17 + 18446744073709551616 * x20 + 340282366920938463463374607431768211456 * x22 + 6277101735386680763835789423207666416102355444464034512896 * x25) + 115792089237316195423570985008687907853269984665640564039457584007913129639936 * x26 = (x8 + 18446744073709551616 * x10 + 340282366920938463463374607431768211456 * x12 + 6277101735386680763835789423207666416102355444464034512896 * x14) + 115792089210356248762697446949407573530086143415290314195533631308867097853951 := by omega
theorem sub_z0 (A Y D x15 : Int) (hA : 0 ≤ A ∧ A < 115792089210356248762697446949407573530086143415290314195533631308867097853951) (hY : 0 ≤ Y ∧ Y < 115792089210356248762697446949407573530086143415290314195533631308867097853951) (hD : 0 ≤ D ∧ D < 115792089237316195423570985008687907853269984665640564039457584007913129639936) (h : D = A - Y + 115792089237316195423570985008687907853269984665640564039457584007913129639936 * x15) (e : x15 = 0) : D = A - Y + 0 * 115792089210356248762697446949407573530086143415290314195533631308867097853951 ∧ 0 ≤ D ∧ D < 115792089210356248762697446949407573530086143415290314195533631308867097853951 := by subst e; omega
theorem sub_z1 (A Y D S x15 x26 : Int) (hA : 0 ≤ A ∧ A < 115792089210356248762697446949407573530086143415290314195533631308867097853951) (hY : 0 ≤ Y ∧ Y < 115792089210356248762697446949407573530086143415290314195533631308867097853951) (hD : 0 ≤ D ∧ D < 115792089237316195423570985008687907853269984665640564039457584007913129639936) (hS : 0 ≤ S ∧ S < 115792089237316195423570985008687907853269984665640564039457584007913129639936) (h : D = A - Y + 115792089237316195423570985008687907853269984665640564039457584007913129639936 * x15) (h2 : S + 115792089237316195423570985008687907853269984665640564039457584007913129639936 * x26 = D + 115792089210356248762697446949407573530086143415290314195533631308867097853951) (e : x15 = 1) : S = A - Y + 1 * 115792089210356248762697446949407573530086143415290314195533631308867097853951 ∧ 0 ≤ S ∧ S < 115792089210356248762697446949407573530086143415290314195533631308867097853951 := by subst e; omega
theorem and_zero64a : bits .and .u64 0 4294967295 = 0 := by decide +kernel
theorem and_zero64b : bits .and .u64 0 18446744069414584321 = 0 := by decide +kernel
theorem and_ones64a : bits .and .u64 18446744073709551615 4294967295 = 4294967295 := by decide +kernel
theorem and_ones64b : bits .and .u64 18446744073709551615 18446744069414584321 = 18446744069414584321 := by decide +kernel

set_option maxHeartbeats 1000000 in
theorem arith_sub (ρ : Nat → Int) (hb : ∀ i, i < 27 → 0 ≤ ρ i ∧ ρ i < 18446744073709551616) (hd : ∀ i x, i < 27 → defs_sub[27 - 1 - i]? = some x → ρ i = ev ρ x) (hA : 0 ≤ (ρ 0 + 18446744073709551616 * ρ 1 + 340282366920938463463374607431768211456 * ρ 2 + 6277101735386680763835789423207666416102355444464034512896 * ρ 3) ∧ (ρ 0 + 18446744073709551616 * ρ 1 + 340282366920938463463374607431768211456 * ρ 2 + 6277101735386680763835789423207666416102355444464034512896 * ρ 3) < 115792089210356248762697446949407573530086143415290314195533631308867097853951) (hY : 0 ≤ (ρ 4 + 18446744073709551616 * ρ 5 + 340282366920938463463374607431768211456 * ρ 6 + 6277101735386680763835789423207666416102355444464034512896 * ρ 7) ∧ (ρ 4 + 18446744073709551616 * ρ 5 + 340282366920938463463374607431768211456 * ρ 6 + 6277101735386680763835789423207666416102355444464034512896 * ρ 7) < 115792089210356248762697446949407573530086143415290314195533631308867097853951) :
    ∃ q : Int, (ρ 17 + 18446744073709551616 * ρ 20 + 340282366920938463463374607431768211456 * ρ 22 + 6277101735386680763835789423207666416102355444464034512896 * ρ 25) = (ρ 0 + 18446744073709551616 * ρ 1 + 340282366920938463463374607431768211456 * ρ 2 + 6277101735386680763835789423207666416102355444464034512896 * ρ 3) - (ρ 4 + 18446744073709551616 * ρ 5 + 340282366920938463463374607431768211456 * ρ 6 + 6277101735386680763835789423207666416102355444464034512896 * ρ 7) + q * 115792089210356248762697446949407573530086143415290314195533631308867097853951 ∧ 0 ≤ (ρ 17 + 18446744073709551616 * ρ 20 + 340282366920938463463374607431768211456 * ρ 22 + 6277101735386680763835789423207666416102355444464034512896 * ρ 25) ∧ (ρ 17 + 18446744073709551616 * ρ 20 + 340282366920938463463374607431768211456 * ρ 22 + 6277101735386680763835789423207666416102355444464034512896 * ρ 25) < 115792089210356248762697446949407573530086143415290314195533631308867097853951 := by
  have d8 : ρ 8 = (ρ 0 - ρ 4 - 0) % 18446744073709551616 := by have h := hd 8 _ (by decide) rfl; exact h
  have d9 : ρ 9 = if ρ 0 < ρ 4 + 0 then 1 else 0 := by have h := hd 9 _ (by decide) rfl; exact h
  have t9 := bitp _ _ _ _ d9
  have p8 := subp _ _ _ _ _ (hb 0 (by decide)) (hb 4 (by decide)) (.inl rfl) d8 d9
  have d10 : ρ 10 = (ρ 1 - ρ 5 - ρ 9) % 18446744073709551616 := by have h := hd 10 _ (by decide) rfl; exact h
  have d11 : ρ 11 = if ρ 1 < ρ 5 + ρ 9 then 1 else 0 := by have h := hd 11 _ (by decide) rfl; exact h
  have t11 := bitp _ _ _ _ d11
  have p10 := subp _ _ _ _ _ (hb 1 (by decide)) (hb 5 (by decide)) t9 d10 d11
  have d12 : ρ 12 = (ρ 2 - ρ 6 - ρ 11) % 18446744073709551616 := by have h := hd 12 _ (by decide) rfl; exact h
  have d13 : ρ 13 = if ρ 2 < ρ 6 + ρ 11 then 1 else 0 := by have h := hd 13 _ (by decide) rfl; exact h
  have t13 := bitp _ _ _ _ d13
  have p12 := subp _ _ _ _ _ (hb 2 (by decide)) (hb 6 (by decide)) t11 d12 d13
  have d14 : ρ 14 = (ρ 3 - ρ 7 - ρ 13) % 18446744073709551616 := by have h := hd 14 _ (by decide) rfl; exact h
  have d15 : ρ 15 = if ρ 3 < ρ 7 + ρ 13 then 1 else 0 := by have h := hd 15 _ (by decide) rfl; exact h
  have t15 := bitp _ _ _ _ d15
  have p14 := subp _ _ _ _ _ (hb 3 (by decide)) (hb 7 (by decide)) t13 d14 d15
  have d16 : ρ 16 = if ρ 15 = 0 then 0 else 18446744073709551615 := by have h := hd 16 _ (by decide) rfl; exact h
  have d17 : ρ 17 = (ρ 8 + ρ 16 + 0) % 18446744073709551616 := by have h := hd 17 _ (by decide) rfl; exact h
  have d18 : ρ 18 = (ρ 8 + ρ 16 + 0) / 18446744073709551616 := by have h := hd 18 _ (by decide) rfl; exact h
  have p17 := addp _ _ _ _ _ d17 d18
  have d19 : ρ 19 = bits .and .u64 (ρ 16) (4294967295) := by have h := hd 19 _ (by decide) rfl; exact h
  have d20 : ρ 20 = (ρ 10 + ρ 19 + ρ 18) % 18446744073709551616 := by have h := hd 20 _ (by decide) rfl; exact h
  have d21 : ρ 21 = (ρ 10 + ρ 19 + ρ 18) / 18446744073709551616 := by have h := hd 21 _ (by decide) rfl; exact h
  have p20 := addp _ _ _ _ _ d20 d21
  have d22 : ρ 22 = (ρ 12 + 0 + ρ 21) % 18446744073709551616 := by have h := hd 22 _ (by decide) rfl; exact h
  have d23 : ρ 23 = (ρ 12 + 0 + ρ 21) / 18446744073709551616 := by have h := hd 23 _ (by decide) rfl; exact h
  have p22 := addp _ _ _ _ _ d22 d23
  have d24 : ρ 24 = bits .and .u64 (ρ 16) (18446744069414584321) := by have h := hd 24 _ (by decide) rfl; exact h
  have d25 : ρ 25 = (ρ 14 + ρ 24 + ρ 23) % 18446744073709551616 := by have h := hd 25 _ (by decide) rfl; exact h
  have d26 : ρ 26 = (ρ 14 + ρ 24 + ρ 23) / 18446744073709551616 := by have h := hd 26 _ (by decide) rfl; exact h
  have p25 := addp _ _ _ _ _ d25 d26
  have L := sub_l _ _ _ _ _ _ _ _ _ _ _ _ _ _ _ _ p8 p10 p12 p14
  have hD := four_bd _ _ _ _ (hb 8 (by decide)) (hb 10 (by decide)) (hb 12 (by decide)) (hb 14 (by decide))
  have hS := four_bd _ _ _ _ (hb 17 (by decide)) (hb 20 (by decide)) (hb 22 (by decide)) (hb 25 (by decide))
  rcases t15 with e | e
  · have e16 : ρ 16 = 0 := by rw [d16, e]; rfl
    have e19 : ρ 19 = 0 := by rw [d19, e16]; exact and_zero64a
    have e24 : ρ 24 = 0 := by rw [d24, e16]; exact and_zero64b
    rw [e16] at p17; rw [e19] at p20; rw [e24] at p25
    have u := sub_0 _ _ _ _ _ _ _ _ _ _ _ _ (hb 8 (by decide)) (hb 10 (by decide)) (hb 12 (by decide)) (hb 14 (by decide)) (hb 17 (by decide)) (hb 20 (by decide)) (hb 22 (by decide)) (hb 25 (by decide)) p17 p20 p22 p25
    rw [u]
    exact ⟨0, sub_z0 _ _ _ _ hA hY hD L e⟩
  · have e16 : ρ 16 = 18446744073709551615 := by rw [d16, e]; rfl
    have e19 : ρ 19 = 4294967295 := by rw [d19, e16]; exact and_ones64a
    have e24 : ρ 24 = 18446744069414584321 := by rw [d24, e16]; exact and_ones64b
    rw [e16] at p17; rw [e19] at p20; rw [e24] at p25
    have u := sub_1 _ _ _ _ _ _ _ _ _ _ _ _ p17 p20 p22 p25
    exact ⟨1, sub_z1 _ _ _ _ _ _ hA hY hD hS L u e⟩

noncomputable def defs_sel0 : List Ex := [.cmov (.c 0) (.v 3) (.v 7), .cmov (.c 0) (.v 2) (.v 6), .cmov (.c 0) (.v 1) (.v 5), .cmov (.c 0) (.v 0) (.v 4)]

theorem arith_sel0 (ρ : Nat → Int) (hd : ∀ i x, i < 12 → defs_sel0[12 - 1 - i]? = some x → ρ i = ev ρ x) : ρ 8 = ρ 0 ∧ ρ 9 = ρ 1 ∧ ρ 10 = ρ 2 ∧ ρ 11 = ρ 3 := by
  have d8 : ρ 8 = if 0 = 0 then ρ 0 else ρ 4 := by have h := hd 8 _ (by decide) rfl; exact h
  have d9 : ρ 9 = if 0 = 0 then ρ 1 else ρ 5 := by have h := hd 9 _ (by decide) rfl; exact h
  have d10 : ρ 10 = if 0 = 0 then ρ 2 else ρ 6 := by have h := hd 10 _ (by decide) rfl; exact h
  have d11 : ρ 11 = if 0 = 0 then ρ 3 else ρ 7 := by have h := hd 11 _ (by decide) rfl; exact h
  exact ⟨d8, d9, d10, d11⟩

noncomputable def defs_sel1 : List Ex := [.cmov (.c 1) (.v 3) (.v 7), .cmov (.c 1) (.v 2) (.v 6), .cmov (.c 1) (.v 1) (.v 5), .cmov (.c 1) (.v 0) (.v 4)]

theorem arith_sel1 (ρ : Nat → Int) (hd : ∀ i x, i < 12 → defs_sel1[12 - 1 - i]? = some x → ρ i = ev ρ x) : ρ 8 = ρ 4 ∧ ρ 9 = ρ 5 ∧ ρ 10 = ρ 6 ∧ ρ 11 = ρ 7 := by
  have d8 : ρ 8 = if 1 = 0 then ρ 0 else ρ 4 := by have h := hd 8 _ (by decide) rfl; exact h
  have d9 : ρ 9 = if 1 = 0 then ρ 1 else ρ 5 := by have h := hd 9 _ (by decide) rfl; exact h
  have d10 : ρ 10 = if 1 = 0 then ρ 2 else ρ 6 := by have h := hd 10 _ (by decide) rfl; exact h
  have d11 : ρ 11 = if 1 = 0 then ρ 3 else ρ 7 := by have h := hd 11 _ (by decide) rfl; exact h
  exact ⟨d8, d9, d10, d11⟩

noncomputable def defs_tb : List Ex := [.conv .u8 (.v 90), .bin .shr .u64 (.v 87) (.c 8), .bin .and .u8 (.v 88) (.c 255), .conv .u8 (.v 87), .bin .shr .u64 (.v 84) (.c 8), .bin .and .u8 (.v 85) (.c 255), .conv .u8 (.v 84), .bin .shr .u64 (.v 81) (.c 8), .bin .and .u8 (.v 82) (.c 255), .conv .u8 (.v 81), .bin .shr .u64 (.v 78) (.c 8), .bin .and .u8 (.v 79) (.c 255), .conv .u8 (.v 78), .bin .shr .u64 (.v 75) (.c 8), .bin .and .u8 (.v 76) (.c 255), .conv .u8 (.v 75), .bin .shr .u64 (.v 72) (.c 8), .bin .and .u8 (.v 73) (.c 255), .conv .u8 (.v 72), .bin .shr .u64 (.v 3) (.c 8), .bin .and .u8 (.v 70) (.c 255), .conv .u8 (.v 3), .conv .u8 (.v 68), .bin .shr .u64 (.v 65) (.c 8), .bin .and .u8 (.v 66) (.c 255), .conv .u8 (.v 65), .bin .shr .u64 (.v 62) (.c 8), .bin .and .u8 (.v 63) (.c 255), .conv .u8 (.v 62), .bin .shr .u64 (.v 59) (.c 8), .bin .and .u8 (.v 60) (.c 255), .conv .u8 (.v 59), .bin .shr .u64 (.v 56) (.c 8), .bin .and .u8 (.v 57) (.c 255), .conv .u8 (.v 56), .bin .shr .u64 (.v 53) (.c 8), .bin .and .u8 (.v 54) (.c 255), .conv .u8 (.v 53), .bin .shr .u64 (.v 50) (.c 8), .bin .and .u8 (.v 51) (.c 255), .conv .u8 (.v 50), .bin .shr .u64 (.v 2) (.c 8), .bin .and .u8 (.v 48) (.c 255), .conv .u8 (.v 2), .conv .u8 (.v 46), .bin .shr .u64 (.v 43) (.c 8), .bin .and .u8 (.v 44) (.c 255), .conv .u8 (.v 43), .bin .shr .u64 (.v 40) (.c 8), .bin .and .u8 (.v 41) (.c 255), .conv .u8 (.v 40), .bin .shr .u64 (.v 37) (.c 8), .bin .and .u8 (.v 38) (.c 255), .conv .u8 (.v 37), .bin .shr .u64 (.v 34) (.c 8), .bin .and .u8 (.v 35) (.c 255), .conv .u8 (.v 34), .bin .shr .u64 (.v 31) (.c 8), .bin .and .u8 (.v 32) (.c 255), .conv .u8 (.v 31), .bin .shr .u64 (.v 28) (.c 8), .bin .and .u8 (.v 29) (.c 255), .conv .u8 (.v 28), .bin .shr .u64 (.v 1) (.c 8), .bin .and .u8 (.v 26) (.c 255), .conv .u8 (.v 1), .conv .u8 (.v 24), .bin .shr .u64 (.v 21) (.c 8), .bin .and .u8 (.v 22) (.c 255), .conv .u8 (.v 21), .bin .shr .u64 (.v 18) (.c 8), .bin .and .u8 (.v 19) (.c 255), .conv .u8 (.v 18), .bin .shr .u64 (.v 15) (.c 8), .bin .and .u8 (.v 16) (.c 255), .conv .u8 (.v 15), .bin .shr .u64 (.v 12) (.c 8), .bin .and .u8 (.v 13) (.c 255), .conv .u8 (.v 12), .bin .shr .u64 (.v 9) (.c 8), .bin .and .u8 (.v 10) (.c 255), .conv .u8 (.v 9), .bin .shr .u64 (.v 6) (.c 8), .bin .and .u8 (.v 7) (.c 255), .conv .u8 (.v 6), .bin .shr .u64 (.v 0) (.c 8), .bin .and .u8 (.v 4) (.c 255), .conv .u8 (.v 0)]

theorem mod256 (x : Int) : 0 ≤ x % 256 ∧ x % 256 < 256 := by omega
theorem tb_b (x c : Int) (h : c = IntKind.u8.wrap x) : c = x % 256 := h.trans (IntKind.wrap_u8 x)
theorem and255 : ∀ c : Fin 256, bits .and .u8 (c.val : Int) 255 = (c.val : Int) := by decide +kernel
theorem tb_a (x c b : Int) (h : c = x % 256) (e : b = bits .and .u8 c 255) : b = x % 256 := by
  obtain ⟨k, hk, hk'⟩ : ∃ k : Nat, x % 256 = (k : Int) ∧ k < 256 := ⟨(x % 256).toNat, by omega, by omega⟩
  rw [e, h, hk]
  exact and255 ⟨k, hk'⟩
theorem tb_s (x s : Int) (h0 : 0 ≤ x) (h : s = bop .shr .u64 x 8) : s = x / 256 := by
  rw [h]
  show x.fdiv (2 ^ (min (8 : Int).toNat 64)) = _
  rw [Int.fdiv_eq_ediv_of_nonneg _ (by decide)]
  rfl
theorem tb_l (x s1 s2 s3 s4 s5 s6 s7 b0 b1 b2 b3 b4 b5 b6 b7 : Int) (hx : 0 ≤ x ∧ x < 18446744073709551616) (e1 : s1 = x / 256) (e2 : s2 = s1 / 256) (e3 : s3 = s2 / 256) (e4 : s4 = s3 / 256) (e5 : s5 = s4 / 256) (e6 : s6 = s5 / 256) (e7 : s7 = s6 / 256)
    (h0 : b0 = x % 256) (h1 : b1 = s1 % 256) (h2 : b2 = s2 % 256) (h3 : b3 = s3 % 256) (h4 : b4 = s4 % 256) (h5 : b5 = s5 % 256) (h6 : b6 = s6 % 256) (h7 : b7 = s7 % 256) :
    b0 + 256 * b1 + 65536 * b2 + 16777216 * b3 + 4294967296 * b4 + 1099511627776 * b5 + 281474976710656 * b6 + 72057594037927936 * b7 = x := by omega
theorem tb_q (x0 x1 x2 x3 b0 b1 b2 b3 b4 b5 b6 b7 b8 b9 b10 b11 b12 b13 b14 b15 b16 b17 b18 b19 b20 b21 b22 b23 b24 b25 b26 b27 b28 b29 b30 b31 : Int) (h0 : b0 + 256 * b1 + 65536 * b2 + 16777216 * b3 + 4294967296 * b4 + 1099511627776 * b5 + 281474976710656 * b6 + 72057594037927936 * b7 = x0) (h1 : b8 + 256 * b9 + 65536 * b10 + 16777216 * b11 + 4294967296 * b12 + 1099511627776 * b13 + 281474976710656 * b14 + 72057594037927936 * b15 = x1) (h2 : b16 + 256 * b17 + 65536 * b18 + 16777216 * b19 + 4294967296 * b20 + 1099511627776 * b21 + 281474976710656 * b22 + 72057594037927936 * b23 = x2) (h3 : b24 + 256 * b25 + 65536 * b26 + 16777216 * b27 + 4294967296 * b28 + 1099511627776 * b29 + 281474976710656 * b30 + 72057594037927936 * b31 = x3) : bal [b0, b1, b2, b3, b4, b5, b6, b7, b8, b9, b10, b11, b12, b13, b14, b15, b16, b17, b18, b19, b20, b21, b22, b23, b24, b25, b26, b27, b28, b29, b30, b31] = qal [x0, x1, x2, x3] := by
  simp only [bal, qal]
  subst h0; subst h1; subst h2; subst h3
  omega
set_option maxHeartbeats 4000000 in
theorem arith_tb (ρ : Nat → Int) (hb : ∀ i, i < 92 → 0 ≤ ρ i ∧ ρ i < 18446744073709551616) (hd : ∀ i x, i < 92 → defs_tb[92 - 1 - i]? = some x → ρ i = ev ρ x) :
    bds 32 (qal [ρ 0, ρ 1, ρ 2, ρ 3]) = [ρ 5, ρ 8, ρ 11, ρ 14, ρ 17, ρ 20, ρ 23, ρ 25, ρ 27, ρ 30, ρ 33, ρ 36, ρ 39, ρ 42, ρ 45, ρ 47, ρ 49, ρ 52, ρ 55, ρ 58, ρ 61, ρ 64, ρ 67, ρ 69, ρ 71, ρ 74, ρ 77, ρ 80, ρ 83, ρ 86, ρ 89, ρ 91] := by
  have d4 : ρ 4 = IntKind.u8.wrap (ρ 0) := by have h := hd 4 _ (by decide) rfl; exact h
  have d5 : ρ 5 = bits .and .u8 (ρ 4) (255) := by have h := hd 5 _ (by decide) rfl; exact h
  have d6 : ρ 6 = bop .shr .u64 (ρ 0) (8) := by have h := hd 6 _ (by decide) rfl; exact h
  have d7 : ρ 7 = IntKind.u8.wrap (ρ 6) := by have h := hd 7 _ (by decide) rfl; exact h
  have d8 : ρ 8 = bits .and .u8 (ρ 7) (255) := by have h := hd 8 _ (by decide) rfl; exact h
  have d9 : ρ 9 = bop .shr .u64 (ρ 6) (8) := by have h := hd 9 _ (by decide) rfl; exact h
  have d10 : ρ 10 = IntKind.u8.wrap (ρ 9) := by have h := hd 10 _ (by decide) rfl; exact h
  have d11 : ρ 11 = bits .and .u8 (ρ 10) (255) := by have h := hd 11 _ (by decide) rfl; exact h
  have d12 : ρ 12 = bop .shr .u64 (ρ 9) (8) := by have h := hd 12 _ (by decide) rfl; exact h
  have d13 : ρ 13 = IntKind.u8.wrap (ρ 12) := by have h := hd 13 _ (by decide) rfl; exact h
  have d14 : ρ 14 = bits .and .u8 (ρ 13) (255) := by have h := hd 14 _ (by decide) rfl; exact h
  have d15 : ρ 15 = bop .shr .u64 (ρ 12) (8) := by have h := hd 15 _ (by decide) rfl; exact h
  have d16 : ρ 16 = IntKind.u8.wrap (ρ 15) := by have h := hd 16 _ (by decide) rfl; exact h
  have d17 : ρ 17 = bits .and .u8 (ρ 16) (255) := by have h := hd 17 _ (by decide) rfl; exact h
  have d18 : ρ 18 = bop .shr .u64 (ρ 15) (8) := by have h := hd 18 _ (by decide) rfl; exact h
  have d19 : ρ 19 = IntKind.u8.wrap (ρ 18) := by have h := hd 19 _ (by decide) rfl; exact h
  have d20 : ρ 20 = bits .and .u8 (ρ 19) (255) := by have h := hd 20 _ (by decide) rfl; exact h
  have d21 : ρ 21 = bop .shr .u64 (ρ 18) (8) := by have h := hd 21 _ (by decide) rfl; exact h
  have d22 : ρ 22 = IntKind.u8.wrap (ρ 21) := by have h := hd 22 _ (by decide) rfl; exact h
  have d23 : ρ 23 = bits .and .u8 (ρ 22) (255) := by have h := hd 23 _ (by decide) rfl; exact h
  have d24 : ρ 24 = bop .shr .u64 (ρ 21) (8) := by have h := hd 24 _ (by decide) rfl; exact h
  have d25 : ρ 25 = IntKind.u8.wrap (ρ 24) := by have h := hd 25 _ (by decide) rfl; exact h
  have d26 : ρ 26 = IntKind.u8.wrap (ρ 1) := by have h := hd 26 _ (by decide) rfl; exact h
  have d27 : ρ 27 = bits .and .u8 (ρ 26) (255) := by have h := hd 27 _ (by decide) rfl; exact h
  have d28 : ρ 28 = bop .shr .u64 (ρ 1) (8) := by have h := hd 28 _ (by decide) rfl; exact h
  have d29 : ρ 29 = IntKind.u8.wrap (ρ 28) := by have h := hd 29 _ (by decide) rfl; exact h
  have d30 : ρ 30 = bits .and .u8 (ρ 29) (255) := by have h := hd 30 _ (by decide) rfl; exact h
  have d31 : ρ 31 = bop .shr .u64 (ρ 28) (8) := by have h := hd 31 _ (by decide) rfl; exact h
  have d32 : ρ 32 = IntKind.u8.wrap (ρ 31) := by have h := hd 32 _ (by decide) rfl; exact h
  have d33 : ρ 33 = bits .and .u8 (ρ 32) (255) := by have h := hd 33 _ (by decide) rfl; exact h
  have d34 : ρ 34 = bop .shr .u64 (ρ 31) (8) := by have h := hd 34 _ (by decide) rfl; exact h
  have d35 : ρ 35 = IntKind.u8.wrap (ρ 34) := by have h := hd 35 _ (by decide) rfl; exact h
  have d36 : ρ 36 = bits .and .u8 (ρ 35) (255) := by have h := hd 36 _ (by decide) rfl; exact h
  have d37 : ρ 37 = bop .shr .u64 (ρ 34) (8) := by have h := hd 37 _ (by decide) rfl; exact h
  have d38 : ρ 38 = IntKind.u8.wrap (ρ 37) := by have h := hd 38 _ (by decide) rfl; exact h
  have d39 : ρ 39 = bits .and .u8 (ρ 38) (255) := by have h := hd 39 _ (by decide) rfl; exact h
  have d40 : ρ 40 = bop .shr .u64 (ρ 37) (8) := by have h := hd 40 _ (by decide) rfl; exact h
  have d41 : ρ 41 = IntKind.u8.wrap (ρ 40) := by have h := hd 41 _ (by decide) rfl; exact h
  have d42 : ρ 42 = bits .and .u8 (ρ 41) (255) := by have h := hd 42 _ (by decide) rfl; exact h
  have d43 : ρ 43 = bop .shr .u64 (ρ 40) (8) := by have h := hd 43 _ (by decide) rfl; exact h
  have d44 : ρ 44 = IntKind.u8.wrap (ρ 43) := by have h := hd 44 _ (by decide) rfl; exact h
  have d45 : ρ 45 = bits .and .u8 (ρ 44) (255) := by have h := hd 45 _ (by decide) rfl; exact h
  have d46 : ρ 46 = bop .shr .u64 (ρ 43) (8) := by have h := hd 46 _ (by decide) rfl; exact h
  have d47 : ρ 47 = IntKind.u8.wrap (ρ 46) := by have h := hd 47 _ (by decide) rfl; exact h
  have d48 : ρ 48 = IntKind.u8.wrap (ρ 2) := by have h := hd 48 _ (by decide) rfl; exact h
  have d49 : ρ 49 = bits .and .u8 (ρ 48) (255) := by have h := hd 49 _ (by decide) rfl; exact h
  have d50 : ρ 50 = bop .shr .u64 (ρ 2) (8) := by have h := hd 50 _ (by decide) rfl; exact h
  have d51 : ρ 51 = IntKind.u8.wrap (ρ 50) := by have h := hd 51 _ (by decide) rfl; exact h
  have d52 : ρ 52 = bits .and .u8 (ρ 51) (255) := by have h := hd 52 _ (by decide) rfl; exact h
  have d53 : ρ 53 = bop .shr .u64 (ρ 50) (8) := by have h := hd 53 _ (by decide) rfl; exact h
  have d54 : ρ 54 = IntKind.u8.wrap (ρ 53) := by have h := hd 54 _ (by decide) rfl; exact h
  have d55 : ρ 55 = bits .and .u8 (ρ 54) (255) := by have h := hd 55 _ (by decide) rfl; exact h
  have d56 : ρ 56 = bop .shr .u64 (ρ 53) (8) := by have h := hd 56 _ (by decide) rfl; exact h
  have d57 : ρ 57 = IntKind.u8.wrap (ρ 56) := by have h := hd 57 _ (by decide) rfl; exact h
  have d58 : ρ 58 = bits .and .u8 (ρ 57) (255) := by have h := hd 58 _ (by decide) rfl; exact h
  have d59 : ρ 59 = bop .shr .u64 (ρ 56) (8) := by have h := hd 59 _ (by decide) rfl; exact h
  have d60 : ρ 60 = IntKind.u8.wrap (ρ 59) := by have h := hd 60 _ (by decide) rfl; exact h
  have d61 : ρ 61 = bits .and .u8 (ρ 60) (255) := by have h := hd 61 _ (by decide) rfl; exact h
  have d62 : ρ 62 = bop .shr .u64 (ρ 59) (8) := by have h := hd 62 _ (by decide) rfl; exact h
  have d63 : ρ 63 = IntKind.u8.wrap (ρ 62) := by have h := hd 63 _ (by decide) rfl; exact h
  have d64 : ρ 64 = bits .and .u8 (ρ 63) (255) := by have h := hd 64 _ (by decide) rfl; exact h
  have d65 : ρ 65 = bop .shr .u64 (ρ 62) (8) := by have h := hd 65 _ (by decide) rfl; exact h
  have d66 : ρ 66 = IntKind.u8.wrap (ρ 65) := by have h := hd 66 _ (by decide) rfl; exact h
  have d67 : ρ 67 = bits .and .u8 (ρ 66) (255) := by have h := hd 67 _ (by decide) rfl; exact h
  have d68 : ρ 68 = bop .shr .u64 (ρ 65) (8) := by have h := hd 68 _ (by decide) rfl; exact h
  have d69 : ρ 69 = IntKind.u8.wrap (ρ 68) := by have h := hd 69 _ (by decide) rfl; exact h
  have d70 : ρ 70 = IntKind.u8.wrap (ρ 3) := by have h := hd 70 _ (by decide) rfl; exact h
  have d71 : ρ 71 = bits .and .u8 (ρ 70) (255) := by have h := hd 71 _ (by decide) rfl; exact h
  have d72 : ρ 72 = bop .shr .u64 (ρ 3) (8) := by have h := hd 72 _ (by decide) rfl; exact h
  have d73 : ρ 73 = IntKind.u8.wrap (ρ 72) := by have h := hd 73 _ (by decide) rfl; exact h
  have d74 : ρ 74 = bits .and .u8 (ρ 73) (255) := by have h := hd 74 _ (by decide) rfl; exact h
  have d75 : ρ 75 = bop .shr .u64 (ρ 72) (8) := by have h := hd 75 _ (by decide) rfl; exact h
  have d76 : ρ 76 = IntKind.u8.wrap (ρ 75) := by have h := hd 76 _ (by decide) rfl; exact h
  have d77 : ρ 77 = bits .and .u8 (ρ 76) (255) := by have h := hd 77 _ (by decide) rfl; exact h
  have d78 : ρ 78 = bop .shr .u64 (ρ 75) (8) := by have h := hd 78 _ (by decide) rfl; exact h
  have d79 : ρ 79 = IntKind.u8.wrap (ρ 78) := by have h := hd 79 _ (by decide) rfl; exact h
  have d80 : ρ 80 = bits .and .u8 (ρ 79) (255) := by have h := hd 80 _ (by decide) rfl; exact h
  have d81 : ρ 81 = bop .shr .u64 (ρ 78) (8) := by have h := hd 81 _ (by decide) rfl; exact h
  have d82 : ρ 82 = IntKind.u8.wrap (ρ 81) := by have h := hd 82 _ (by decide) rfl; exact h
  have d83 : ρ 83 = bits .and .u8 (ρ 82) (255) := by have h := hd 83 _ (by decide) rfl; exact h
  have d84 : ρ 84 = bop .shr .u64 (ρ 81) (8) := by have h := hd 84 _ (by decide) rfl; exact h
  have d85 : ρ 85 = IntKind.u8.wrap (ρ 84) := by have h := hd 85 _ (by decide) rfl; exact h
  have d86 : ρ 86 = bits .and .u8 (ρ 85) (255) := by have h := hd 86 _ (by decide) rfl; exact h
  have d87 : ρ 87 = bop .shr .u64 (ρ 84) (8) := by have h := hd 87 _ (by decide) rfl; exact h
  have d88 : ρ 88 = IntKind.u8.wrap (ρ 87) := by have h := hd 88 _ (by decide) rfl; exact h
  have d89 : ρ 89 = bits .and .u8 (ρ 88) (255) := by have h := hd 89 _ (by decide) rfl; exact h
  have d90 : ρ 90 = bop .shr .u64 (ρ 87) (8) := by have h := hd 90 _ (by decide) rfl; exact h
  have d91 : ρ 91 = IntKind.u8.wrap (ρ 90) := by have h := hd 91 _ (by decide) rfl; exact h
  have e4 := tb_b _ _ d4
  have e5 := tb_a _ _ _ e4 d5
  have e6 := tb_s _ _ (hb 0 (by decide)).1 d6
  have e7 := tb_b _ _ d7
  have e8 := tb_a _ _ _ e7 d8
  have e9 := tb_s _ _ (hb 6 (by decide)).1 d9
  have e10 := tb_b _ _ d10
  have e11 := tb_a _ _ _ e10 d11
  have e12 := tb_s _ _ (hb 9 (by decide)).1 d12
  have e13 := tb_b _ _ d13
  have e14 := tb_a _ _ _ e13 d14
  have e15 := tb_s _ _ (hb 12 (by decide)).1 d15
  have e16 := tb_b _ _ d16
  have e17 := tb_a _ _ _ e16 d17
  have e18 := tb_s _ _ (hb 15 (by decide)).1 d18
  have e19 := tb_b _ _ d19
  have e20 := tb_a _ _ _ e19 d20
  have e21 := tb_s _ _ (hb 18 (by decide)).1 d21
  have e22 := tb_b _ _ d22
  have e23 := tb_a _ _ _ e22 d23
  have e24 := tb_s _ _ (hb 21 (by decide)).1 d24
  have e25 := tb_b _ _ d25
  have e26 := tb_b _ _ d26
  have e27 := tb_a _ _ _ e26 d27
  have e28 := tb_s _ _ (hb 1 (by decide)).1 d28
  have e29 := tb_b _ _ d29
  have e30 := tb_a _ _ _ e29 d30
  have e31 := tb_s _ _ (hb 28 (by decide)).1 d31
  have e32 := tb_b _ _ d32
  have e33 := tb_a _ _ _ e32 d33
  have e34 := tb_s _ _ (hb 31 (by decide)).1 d34
  have e35 := tb_b _ _ d35
  have e36 := tb_a _ _ _ e35 d36
  have e37 := tb_s _ _ (hb 34 (by decide)).1 d37
  have e38 := tb_b _ _ d38
  have e39 := tb_a _ _ _ e38 d39
  have e40 := tb_s _ _ (hb 37 (by decide)).1 d40
  have e41 := tb_b _ _ d41
  have e42 := tb_a _ _ _ e41 d42
  have e43 := tb_s _ _ (hb 40 (by decide)).1 d43
  have e44 := tb_b _ _ d44
  have e45 := tb_a _ _ _ e44 d45
  have e46 := tb_s _ _ (hb 43 (by decide)).1 d46
  have e47 := tb_b _ _ d47
  have e48 := tb_b _ _ d48
  have e49 := tb_a _ _ _ e48 d49
  have e50 := tb_s _ _ (hb 2 (by decide)).1 d50
  have e51 := tb_b _ _ d51
  have e52 := tb_a _ _ _ e51 d52
  have e53 := tb_s _ _ (hb 50 (by decide)).1 d53
  have e54 := tb_b _ _ d54
  have e55 := tb_a _ _ _ e54 d55
  have e56 := tb_s _ _ (hb 53 (by decide)).1 d56
  have e57 := tb_b _ _ d57
  have e58 := tb_a _ _ _ e57 d58
  have e59 := tb_s _ _ (hb 56 (by decide)).1 d59
  have e60 := tb_b _ _ d60
  have e61 := tb_a _ _ _ e60 d61
  have e62 := tb_s _ _ (hb 59 (by decide)).1 d62
  have e63 := tb_b _ _ d63
  have e64 := tb_a _ _ _ e63 d64
  have e65 := tb_s _ _ (hb 62 (by decide)).1 d65
  have e66 := tb_b _ _ d66
  have e67 := tb_a _ _ _ e66 d67
  have e68 := tb_s _ _ (hb 65 (by decide)).1 d68
  have e69 := tb_b _ _ d69
  have e70 := tb_b _ _ d70
  have e71 := tb_a _ _ _ e70 d71
  have e72 := tb_s _ _ (hb 3 (by decide)).1 d72
  have e73 := tb_b _ _ d73
  have e74 := tb_a _ _ _ e73 d74
  have e75 := tb_s _ _ (hb 72 (by decide)).1 d75
  have e76 := tb_b _ _ d76
  have e77 := tb_a _ _ _ e76 d77
  have e78 := tb_s _ _ (hb 75 (by decide)).1 d78
  have e79 := tb_b _ _ d79
  have e80 := tb_a _ _ _ e79 d80
  have e81 := tb_s _ _ (hb 78 (by decide)).1 d81
  have e82 := tb_b _ _ d82
  have e83 := tb_a _ _ _ e82 d83
  have e84 := tb_s _ _ (hb 81 (by decide)).1 d84
  have e85 := tb_b _ _ d85
  have e86 := tb_a _ _ _ e85 d86
  have e87 := tb_s _ _ (hb 84 (by decide)).1 d87
  have e88 := tb_b _ _ d88
  have e89 := tb_a _ _ _ e88 d89
  have e90 := tb_s _ _ (hb 87 (by decide)).1 d90
  have e91 := tb_b _ _ d91
  have l0 := tb_l _ _ _ _ _ _ _ _ _ _ _ _ _ _ _ _ (hb 0 (by decide)) e6 e9 e12 e15 e18 e21 e24 e5 e8 e11 e14 e17 e20 e23 e25
  have l1 := tb_l _ _ _ _ _ _ _ _ _ _ _ _ _ _ _ _ (hb 1 (by decide)) e28 e31 e34 e37 e40 e43 e46 e27 e30 e33 e36 e39 e42 e45 e47
  have l2 := tb_l _ _ _ _ _ _ _ _ _ _ _ _ _ _ _ _ (hb 2 (by decide)) e50 e53 e56 e59 e62 e65 e68 e49 e52 e55 e58 e61 e64 e67 e69
  have l3 := tb_l _ _ _ _ _ _ _ _ _ _ _ _ _ _ _ _ (hb 3 (by decide)) e72 e75 e78 e81 e84 e87 e90 e71 e74 e77 e80 e83 e86 e89 e91
  have Q := tb_q _ _ _ _ _ _ _ _ _ _ _ _ _ _ _ _ _ _ _ _ _ _ _ _ _ _ _ _ _ _ _ _ _ _ _ _ l0 l1 l2 l3
  rw [← Q]
  refine bds_bal [ρ 5, ρ 8, ρ 11, ρ 14, ρ 17, ρ 20, ρ 23, ρ 25, ρ 27, ρ 30, ρ 33, ρ 36, ρ 39, ρ 42, ρ 45, ρ 47, ρ 49, ρ 52, ρ 55, ρ 58, ρ 61, ρ 64, ρ 67, ρ 69, ρ 71, ρ 74, ρ 77, ρ 80, ρ 83, ρ 86, ρ 89, ρ 91] ?_
  intro x hx
  simp only [List.mem_cons, List.not_mem_nil, or_false] at hx
  rcases hx with rfl | rfl | rfl | rfl | rfl | rfl | rfl | rfl | rfl | rfl | rfl | rfl | rfl | rfl | rfl | rfl | rfl | rfl | rfl | rfl | rfl | rfl | rfl | rfl | rfl | rfl | rfl | rfl | rfl | rfl | rfl | rfl
  · rw [e5]; exact mod256 _
  · rw [e8]; exact mod256 _
  · rw [e11]; exact mod256 _
  · rw [e14]; exact mod256 _
  · rw [e17]; exact mod256 _
  · rw [e20]; exact mod256 _
  · rw [e23]; exact mod256 _
  · rw [e25]; exact mod256 _
  · rw [e27]; exact mod256 _
  · rw [e30]; exact mod256 _
  · rw [e33]; exact mod256 _
  · rw [e36]; exact mod256 _
  · rw [e39]; exact mod256 _
  · rw [e42]; exact mod256 _
  · rw [e45]; exact mod256 _
  · rw [e47]; exact mod256 _
  · rw [e49]; exact mod256 _
  · rw [e52]; exact mod256 _
  · rw [e55]; exact mod256 _
  · rw [e58]; exact mod256 _
  · rw [e61]; exact mod256 _
  · rw [e64]; exact mod256 _
  · rw [e67]; exact mod256 _
  · rw [e69]; exact mod256 _
  · rw [e71]; exact mod256 _
  · rw [e74]; exact mod256 _
  · rw [e77]; exact mod256 _
  · rw [e80]; exact mod256 _
  · rw [e83]; exact mod256 _
  · rw [e86]; exact mod256 _
  · rw [e89]; exact mod256 _
  · rw [e91]; exact mod256 _

noncomputable def defs_fb : List Ex := [.bin .add .u64 (.v 33) (.v 118), .bin .add .u64 (.v 35) (.v 117), .bin .add .u64 (.v 37) (.v 116), .bin .add .u64 (.v 39) (.v 115), .bin .add .u64 (.v 41) (.v 114), .bin .add .u64 (.v 43) (.v 113), .bin .add .u64 (.v 45) (.v 112), .conv .u64 (.v 24), .bin .add .u64 (.v 47) (.v 110), .bin .add .u64 (.v 49) (.v 109), .bin .add .u64 (.v 51) (.v 108), .bin .add .u64 (.v 53) (.v 107), .bin .add .u64 (.v 55) (.v 106), .bin .add .u64 (.v 57) (.v 105), .bin .add .u64 (.v 59) (.v 104), .conv .u64 (.v 16), .bin .add .u64 (.v 61) (.v 102), .bin .add .u64 (.v 63) (.v 101), .bin .add .u64 (.v 65) (.v 100), .bin .add .u64 (.v 67) (.v 99), .bin .add .u64 (.v 69) (.v 98), .bin .add .u64 (.v 71) (.v 97), .bin .add .u64 (.v 73) (.v 96), .conv .u64 (.v 8), .bin .add .u64 (.v 75) (.v 94), .bin .add .u64 (.v 77) (.v 93), .bin .add .u64 (.v 79) (.v 92), .bin .add .u64 (.v 81) (.v 91), .bin .add .u64 (.v 83) (.v 90), .bin .add .u64 (.v 85) (.v 89), .bin .add .u64 (.v 87) (.v 88), .conv .u64 (.v 0), .bin .shl .u64 (.v 86) (.c 8), .conv .u64 (.v 1), .bin .shl .u64 (.v 84) (.c 16), .conv .u64 (.v 2), .bin .shl .u64 (.v 82) (.c 24), .conv .u64 (.v 3), .bin .shl .u64 (.v 80) (.c 32), .conv .u64 (.v 4), .bin .shl .u64 (.v 78) (.c 40), .conv .u64 (.v 5), .bin .shl .u64 (.v 76) (.c 48), .conv .u64 (.v 6), .bin .shl .u64 (.v 74) (.c 56), .conv .u64 (.v 7), .bin .shl .u64 (.v 72) (.c 8), .conv .u64 (.v 9), .bin .shl .u64 (.v 70) (.c 16), .conv .u64 (.v 10), .bin .shl .u64 (.v 68) (.c 24), .conv .u64 (.v 11), .bin .shl .u64 (.v 66) (.c 32), .conv .u64 (.v 12), .bin .shl .u64 (.v 64) (.c 40), .conv .u64 (.v 13), .bin .shl .u64 (.v 62) (.c 48), .conv .u64 (.v 14), .bin .shl .u64 (.v 60) (.c 56), .conv .u64 (.v 15), .bin .shl .u64 (.v 58) (.c 8), .conv .u64 (.v 17), .bin .shl .u64 (.v 56) (.c 16), .conv .u64 (.v 18), .bin .shl .u64 (.v 54) (.c 24), .conv .u64 (.v 19), .bin .shl .u64 (.v 52) (.c 32), .conv .u64 (.v 20), .bin .shl .u64 (.v 50) (.c 40), .conv .u64 (.v 21), .bin .shl .u64 (.v 48) (.c 48), .conv .u64 (.v 22), .bin .shl .u64 (.v 46) (.c 56), .conv .u64 (.v 23), .bin .shl .u64 (.v 44) (.c 8), .conv .u64 (.v 25), .bin .shl .u64 (.v 42) (.c 16), .conv .u64 (.v 26), .bin .shl .u64 (.v 40) (.c 24), .conv .u64 (.v 27), .bin .shl .u64 (.v 38) (.c 32), .conv .u64 (.v 28), .bin .shl .u64 (.v 36) (.c 40), .conv .u64 (.v 29), .bin .shl .u64 (.v 34) (.c 48), .conv .u64 (.v 30), .bin .shl .u64 (.v 32) (.c 56), .conv .u64 (.v 31)]

theorem fb_c (x c : Int) (hx : 0 ≤ x ∧ x < 256) (h : c = IntKind.u64.wrap x) : c = x := by rw [h, IntKind.wrap_u64]; omega
theorem fb_s8 (x c s : Int) (hx : 0 ≤ x ∧ x < 256) (e : c = x) (h : s = bop .shl .u64 c 8) : s = 256 * x := by
  rw [h, e]
  show IntKind.u64.wrap (x * 2 ^ (min (8 : Int).toNat 64)) = _
  rw [show (2 : Int) ^ (min (8 : Int).toNat 64) = 256 from rfl, IntKind.wrap_u64]
  omega
theorem fb_s16 (x c s : Int) (hx : 0 ≤ x ∧ x < 256) (e : c = x) (h : s = bop .shl .u64 c 16) : s = 65536 * x := by
  rw [h, e]
  show IntKind.u64.wrap (x * 2 ^ (min (16 : Int).toNat 64)) = _
  rw [show (2 : Int) ^ (min (16 : Int).toNat 64) = 65536 from rfl, IntKind.wrap_u64]
  omega
theorem fb_s24 (x c s : Int) (hx : 0 ≤ x ∧ x < 256) (e : c = x) (h : s = bop .shl .u64 c 24) : s = 16777216 * x := by
  rw [h, e]
  show IntKind.u64.wrap (x * 2 ^ (min (24 : Int).toNat 64)) = _
  rw [show (2 : Int) ^ (min (24 : Int).toNat 64) = 16777216 from rfl, IntKind.wrap_u64]
  omega
theorem fb_s32 (x c s : Int) (hx : 0 ≤ x ∧ x < 256) (e : c = x) (h : s = bop .shl .u64 c 32) : s = 4294967296 * x := by
  rw [h, e]
  show IntKind.u64.wrap (x * 2 ^ (min (32 : Int).toNat 64)) = _
  rw [show (2 : Int) ^ (min (32 : Int).toNat 64) = 4294967296 from rfl, IntKind.wrap_u64]
  omega
theorem fb_s40 (x c s : Int) (hx : 0 ≤ x ∧ x < 256) (e : c = x) (h : s = bop .shl .u64 c 40) : s = 1099511627776 * x := by
  rw [h, e]
  show IntKind.u64.wrap (x * 2 ^ (min (40 : Int).toNat 64)) = _
  rw [show (2 : Int) ^ (min (40 : Int).toNat 64) = 1099511627776 from rfl, IntKind.wrap_u64]
  omega
theorem fb_s48 (x c s : Int) (hx : 0 ≤ x ∧ x < 256) (e : c = x) (h : s = bop .shl .u64 c 48) : s = 281474976710656 * x := by
  rw [h, e]
  show IntKind.u64.wrap (x * 2 ^ (min (48 : Int).toNat 64)) = _
  rw [show (2 : Int) ^ (min (48 : Int).toNat 64) = 281474976710656 from rfl, IntKind.wrap_u64]
  omega
theorem fb_s56 (x c s : Int) (hx : 0 ≤ x ∧ x < 256) (e : c = x) (h : s = bop .shl .u64 c 56) : s = 72057594037927936 * x := by
  rw [h, e]
  show IntKind.u64.wrap (x * 2 ^ (min (56 : Int).toNat 64)) = _
  rw [show (2 : Int) ^ (min (56 : Int).toNat 64) = 72057594037927936 from rfl, IntKind.wrap_u64]
  omega
theorem fb_a (a b z A B : Int) (ea : a = A) (eb : b = B) (h : z = bop .add .u64 a b) (h0 : 0 ≤ A + B) (h1 : A + B < 18446744073709551616) : z = A + B := by
  rw [h, ea, eb]
  exact (IntKind.wrap_u64 _).trans (Int.emod_eq_of_lt h0 h1)
theorem fb_b2 (x0 x1 : Int) (h0 : 0 ≤ x0 ∧ x0 < 256) (h1 : 0 ≤ x1 ∧ x1 < 256) : 0 ≤ 256 * x1 + x0 ∧ 256 * x1 + x0 < 18446744073709551616 := by omega
theorem fb_b3 (x0 x1 x2 : Int) (h0 : 0 ≤ x0 ∧ x0 < 256) (h1 : 0 ≤ x1 ∧ x1 < 256) (h2 : 0 ≤ x2 ∧ x2 < 256) : 0 ≤ 65536 * x2 + (256 * x1 + x0) ∧ 65536 * x2 + (256 * x1 + x0) < 18446744073709551616 := by omega
theorem fb_b4 (x0 x1 x2 x3 : Int) (h0 : 0 ≤ x0 ∧ x0 < 256) (h1 : 0 ≤ x1 ∧ x1 < 256) (h2 : 0 ≤ x2 ∧ x2 < 256) (h3 : 0 ≤ x3 ∧ x3 < 256) : 0 ≤ 16777216 * x3 + (65536 * x2 + (256 * x1 + x0)) ∧ 16777216 * x3 + (65536 * x2 + (256 * x1 + x0)) < 18446744073709551616 := by omega
theorem fb_b5 (x0 x1 x2 x3 x4 : Int) (h0 : 0 ≤ x0 ∧ x0 < 256) (h1 : 0 ≤ x1 ∧ x1 < 256) (h2 : 0 ≤ x2 ∧ x2 < 256) (h3 : 0 ≤ x3 ∧ x3 < 256) (h4 : 0 ≤ x4 ∧ x4 < 256) : 0 ≤ 4294967296 * x4 + (16777216 * x3 + (65536 * x2 + (256 * x1 + x0))) ∧ 4294967296 * x4 + (16777216 * x3 + (65536 * x2 + (256 * x1 + x0))) < 18446744073709551616 := by omega
theorem fb_b6 (x0 x1 x2 x3 x4 x5 : Int) (h0 : 0 ≤ x0 ∧ x0 < 256) (h1 : 0 ≤ x1 ∧ x1 < 256) (h2 : 0 ≤ x2 ∧ x2 < 256) (h3 : 0 ≤ x3 ∧ x3 < 256) (h4 : 0 ≤ x4 ∧ x4 < 256) (h5 : 0 ≤ x5 ∧ x5 < 256) : 0 ≤ 1099511627776 * x5 + (4294967296 * x4 + (16777216 * x3 + (65536 * x2 + (256 * x1 + x0)))) ∧ 1099511627776 * x5 + (4294967296 * x4 + (16777216 * x3 + (65536 * x2 + (256 * x1 + x0)))) < 18446744073709551616 := by omega
theorem fb_b7 (x0 x1 x2 x3 x4 x5 x6 : Int) (h0 : 0 ≤ x0 ∧ x0 < 256) (h1 : 0 ≤ x1 ∧ x1 < 256) (h2 : 0 ≤ x2 ∧ x2 < 256) (h3 : 0 ≤ x3 ∧ x3 < 256) (h4 : 0 ≤ x4 ∧ x4 < 256) (h5 : 0 ≤ x5 ∧ x5 < 256) (h6 : 0 ≤ x6 ∧ x6 < 256) : 0 ≤ 281474976710656 * x6 + (1099511627776 * x5 + (4294967296 * x4 + (16777216 * x3 + (65536 * x2 + (256 * x1 + x0))))) ∧ 281474976710656 * x6 + (1099511627776 * x5 + (4294967296 * x4 + (16777216 * x3 + (65536 * x2 + (256 * x1 + x0))))) < 18446744073709551616 := by omega
theorem fb_b8 (x0 x1 x2 x3 x4 x5 x6 x7 : Int) (h0 : 0 ≤ x0 ∧ x0 < 256) (h1 : 0 ≤ x1 ∧ x1 < 256) (h2 : 0 ≤ x2 ∧ x2 < 256) (h3 : 0 ≤ x3 ∧ x3 < 256) (h4 : 0 ≤ x4 ∧ x4 < 256) (h5 : 0 ≤ x5 ∧ x5 < 256) (h6 : 0 ≤ x6 ∧ x6 < 256) (h7 : 0 ≤ x7 ∧ x7 < 256) : 0 ≤ 72057594037927936 * x7 + (281474976710656 * x6 + (1099511627776 * x5 + (4294967296 * x4 + (16777216 * x3 + (65536 * x2 + (256 * x1 + x0)))))) ∧ 72057594037927936 * x7 + (281474976710656 * x6 + (1099511627776 * x5 + (4294967296 * x4 + (16777216 * x3 + (65536 * x2 + (256 * x1 + x0)))))) < 18446744073709551616 := by omega
theorem fb_q (b0 b1 b2 b3 b4 b5 b6 b7 b8 b9 b10 b11 b12 b13 b14 b15 b16 b17 b18 b19 b20 b21 b22 b23 b24 b25 b26 b27 b28 b29 b30 b31 : Int) : qal [72057594037927936 * b7 + (281474976710656 * b6 + (1099511627776 * b5 + (4294967296 * b4 + (16777216 * b3 + (65536 * b2 + (256 * b1 + b0)))))), 72057594037927936 * b15 + (281474976710656 * b14 + (1099511627776 * b13 + (4294967296 * b12 + (16777216 * b11 + (65536 * b10 + (256 * b9 + b8)))))), 72057594037927936 * b23 + (281474976710656 * b22 + (1099511627776 * b21 + (4294967296 * b20 + (16777216 * b19 + (65536 * b18 + (256 * b17 + b16)))))), 72057594037927936 * b31 + (281474976710656 * b30 + (1099511627776 * b29 + (4294967296 * b28 + (16777216 * b27 + (65536 * b26 + (256 * b25 + b24))))))] = bal [b0, b1, b2, b3, b4, b5, b6, b7, b8, b9, b10, b11, b12, b13, b14, b15, b16, b17, b18, b19, b20, b21, b22, b23, b24, b25, b26, b27, b28, b29, b30, b31] := by
  simp only [bal, qal]
  omega
set_option maxHeartbeats 4000000 in
theorem arith_fb (ρ : Nat → Int) (h8 : ∀ i, i < 32 → 0 ≤ ρ i ∧ ρ i < 256) (hd : ∀ i x, i < 120 → defs_fb[120 - 1 - i]? = some x → ρ i = ev ρ x) :
    qal [ρ 95, ρ 103, ρ 111, ρ 119] = bal [ρ 0, ρ 1, ρ 2, ρ 3, ρ 4, ρ 5, ρ 6, ρ 7, ρ 8, ρ 9, ρ 10, ρ 11, ρ 12, ρ 13, ρ 14, ρ 15, ρ 16, ρ 17, ρ 18, ρ 19, ρ 20, ρ 21, ρ 22, ρ 23, ρ 24, ρ 25, ρ 26, ρ 27, ρ 28, ρ 29, ρ 30, ρ 31] := by
  have d32 : ρ 32 = IntKind.u64.wrap (ρ 31) := by have h := hd 32 _ (by decide) rfl; exact h
  have d33 : ρ 33 = bop .shl .u64 (ρ 32) (56) := by have h := hd 33 _ (by decide) rfl; exact h
  have d34 : ρ 34 = IntKind.u64.wrap (ρ 30) := by have h := hd 34 _ (by decide) rfl; exact h
  have d35 : ρ 35 = bop .shl .u64 (ρ 34) (48) := by have h := hd 35 _ (by decide) rfl; exact h
  have d36 : ρ 36 = IntKind.u64.wrap (ρ 29) := by have h := hd 36 _ (by decide) rfl; exact h
  have d37 : ρ 37 = bop .shl .u64 (ρ 36) (40) := by have h := hd 37 _ (by decide) rfl; exact h
  have d38 : ρ 38 = IntKind.u64.wrap (ρ 28) := by have h := hd 38 _ (by decide) rfl; exact h
  have d39 : ρ 39 = bop .shl .u64 (ρ 38) (32) := by have h := hd 39 _ (by decide) rfl; exact h
  have d40 : ρ 40 = IntKind.u64.wrap (ρ 27) := by have h := hd 40 _ (by decide) rfl; exact h
  have d41 : ρ 41 = bop .shl .u64 (ρ 40) (24) := by have h := hd 41 _ (by decide) rfl; exact h
  have d42 : ρ 42 = IntKind.u64.wrap (ρ 26) := by have h := hd 42 _ (by decide) rfl; exact h
  have d43 : ρ 43 = bop .shl .u64 (ρ 42) (16) := by have h := hd 43 _ (by decide) rfl; exact h
  have d44 : ρ 44 = IntKind.u64.wrap (ρ 25) := by have h := hd 44 _ (by decide) rfl; exact h
  have d45 : ρ 45 = bop .shl .u64 (ρ 44) (8) := by have h := hd 45 _ (by decide) rfl; exact h
  have d46 : ρ 46 = IntKind.u64.wrap (ρ 23) := by have h := hd 46 _ (by decide) rfl; exact h
  have d47 : ρ 47 = bop .shl .u64 (ρ 46) (56) := by have h := hd 47 _ (by decide) rfl; exact h
  have d48 : ρ 48 = IntKind.u64.wrap (ρ 22) := by have h := hd 48 _ (by decide) rfl; exact h
  have d49 : ρ 49 = bop .shl .u64 (ρ 48) (48) := by have h := hd 49 _ (by decide) rfl; exact h
  have d50 : ρ 50 = IntKind.u64.wrap (ρ 21) := by have h := hd 50 _ (by decide) rfl; exact h
  have d51 : ρ 51 = bop .shl .u64 (ρ 50) (40) := by have h := hd 51 _ (by decide) rfl; exact h
  have d52 : ρ 52 = IntKind.u64.wrap (ρ 20) := by have h := hd 52 _ (by decide) rfl; exact h
  have d53 : ρ 53 = bop .shl .u64 (ρ 52) (32) := by have h := hd 53 _ (by decide) rfl; exact h
  have d54 : ρ 54 = IntKind.u64.wrap (ρ 19) := by have h := hd 54 _ (by decide) rfl; exact h
  have d55 : ρ 55 = bop .shl .u64 (ρ 54) (24) := by have h := hd 55 _ (by decide) rfl; exact h
  have d56 : ρ 56 = IntKind.u64.wrap (ρ 18) := by have h := hd 56 _ (by decide) rfl; exact h
  have d57 : ρ 57 = bop .shl .u64 (ρ 56) (16) := by have h := hd 57 _ (by decide) rfl; exact h
  have d58 : ρ 58 = IntKind.u64.wrap (ρ 17) := by have h := hd 58 _ (by decide) rfl; exact h
  have d59 : ρ 59 = bop .shl .u64 (ρ 58) (8) := by have h := hd 59 _ (by decide) rfl; exact h
  have d60 : ρ 60 = IntKind.u64.wrap (ρ 15) := by have h := hd 60 _ (by decide) rfl; exact h
  have d61 : ρ 61 = bop .shl .u64 (ρ 60) (56) := by have h := hd 61 _ (by decide) rfl; exact h
  have d62 : ρ 62 = IntKind.u64.wrap (ρ 14) := by have h := hd 62 _ (by decide) rfl; exact h
  have d63 : ρ 63 = bop .shl .u64 (ρ 62) (48) := by have h := hd 63 _ (by decide) rfl; exact h
  have d64 : ρ 64 = IntKind.u64.wrap (ρ 13) := by have h := hd 64 _ (by decide) rfl; exact h
  have d65 : ρ 65 = bop .shl .u64 (ρ 64) (40) := by have h := hd 65 _ (by decide) rfl; exact h
  have d66 : ρ 66 = IntKind.u64.wrap (ρ 12) := by have h := hd 66 _ (by decide) rfl; exact h
  have d67 : ρ 67 = bop .shl .u64 (ρ 66) (32) := by have h := hd 67 _ (by decide) rfl; exact h
  have d68 : ρ 68 = IntKind.u64.wrap (ρ 11) := by have h := hd 68 _ (by decide) rfl; exact h
  have d69 : ρ 69 = bop .shl .u64 (ρ 68) (24) := by have h := hd 69 _ (by decide) rfl; exact h
  have d70 : ρ 70 = IntKind.u64.wrap (ρ 10) := by have h := hd 70 _ (by decide) rfl; exact h
  have d71 : ρ 71 = bop .shl .u64 (ρ 70) (16) := by have h := hd 71 _ (by decide) rfl; exact h
  have d72 : ρ 72 = IntKind.u64.wrap (ρ 9) := by have h := hd 72 _ (by decide) rfl; exact h
  have d73 : ρ 73 = bop .shl .u64 (ρ 72) (8) := by have h := hd 73 _ (by decide) rfl; exact h
  have d74 : ρ 74 = IntKind.u64.wrap (ρ 7) := by have h := hd 74 _ (by decide) rfl; exact h
  have d75 : ρ 75 = bop .shl .u64 (ρ 74) (56) := by have h := hd 75 _ (by decide) rfl; exact h
  have d76 : ρ 76 = IntKind.u64.wrap (ρ 6) := by have h := hd 76 _ (by decide) rfl; exact h
  have d77 : ρ 77 = bop .shl .u64 (ρ 76) (48) := by have h := hd 77 _ (by decide) rfl; exact h
  have d78 : ρ 78 = IntKind.u64.wrap (ρ 5) := by have h := hd 78 _ (by decide) rfl; exact h
  have d79 : ρ 79 = bop .shl .u64 (ρ 78) (40) := by have h := hd 79 _ (by decide) rfl; exact h
  have d80 : ρ 80 = IntKind.u64.wrap (ρ 4) := by have h := hd 80 _ (by decide) rfl; exact h
  have d81 : ρ 81 = bop .shl .u64 (ρ 80) (32) := by have h := hd 81 _ (by decide) rfl; exact h
  have d82 : ρ 82 = IntKind.u64.wrap (ρ 3) := by have h := hd 82 _ (by decide) rfl; exact h
  have d83 : ρ 83 = bop .shl .u64 (ρ 82) (24) := by have h := hd 83 _ (by decide) rfl; exact h
  have d84 : ρ 84 = IntKind.u64.wrap (ρ 2) := by have h := hd 84 _ (by decide) rfl; exact h
  have d85 : ρ 85 = bop .shl .u64 (ρ 84) (16) := by have h := hd 85 _ (by decide) rfl; exact h
  have d86 : ρ 86 = IntKind.u64.wrap (ρ 1) := by have h := hd 86 _ (by decide) rfl; exact h
  have d87 : ρ 87 = bop .shl .u64 (ρ 86) (8) := by have h := hd 87 _ (by decide) rfl; exact h
  have d88 : ρ 88 = IntKind.u64.wrap (ρ 0) := by have h := hd 88 _ (by decide) rfl; exact h
  have d89 : ρ 89 = bop .add .u64 (ρ 87) (ρ 88) := by have h := hd 89 _ (by decide) rfl; exact h
  have d90 : ρ 90 = bop .add .u64 (ρ 85) (ρ 89) := by have h := hd 90 _ (by decide) rfl; exact h
  have d91 : ρ 91 = bop .add .u64 (ρ 83) (ρ 90) := by have h := hd 91 _ (by decide) rfl; exact h
  have d92 : ρ 92 = bop .add .u64 (ρ 81) (ρ 91) := by have h := hd 92 _ (by decide) rfl; exact h
  have d93 : ρ 93 = bop .add .u64 (ρ 79) (ρ 92) := by have h := hd 93 _ (by decide) rfl; exact h
  have d94 : ρ 94 = bop .add .u64 (ρ 77) (ρ 93) := by have h := hd 94 _ (by decide) rfl; exact h
  have d95 : ρ 95 = bop .add .u64 (ρ 75) (ρ 94) := by have h := hd 95 _ (by decide) rfl; exact h
  have d96 : ρ 96 = IntKind.u64.wrap (ρ 8) := by have h := hd 96 _ (by decide) rfl; exact h
  have d97 : ρ 97 = bop .add .u64 (ρ 73) (ρ 96) := by have h := hd 97 _ (by decide) rfl; exact h
  have d98 : ρ 98 = bop .add .u64 (ρ 71) (ρ 97) := by have h := hd 98 _ (by decide) rfl; exact h
  have d99 : ρ 99 = bop .add .u64 (ρ 69) (ρ 98) := by have h := hd 99 _ (by decide) rfl; exact h
  have d100 : ρ 100 = bop .add .u64 (ρ 67) (ρ 99) := by have h := hd 100 _ (by decide) rfl; exact h
  have d101 : ρ 101 = bop .add .u64 (ρ 65) (ρ 100) := by have h := hd 101 _ (by decide) rfl; exact h
  have d102 : ρ 102 = bop .add .u64 (ρ 63) (ρ 101) := by have h := hd 102 _ (by decide) rfl; exact h
  have d103 : ρ 103 = bop .add .u64 (ρ 61) (ρ 102) := by have h := hd 103 _ (by decide) rfl; exact h
  have d104 : ρ 104 = IntKind.u64.wrap (ρ 16) := by have h := hd 104 _ (by decide) rfl; exact h
  have d105 : ρ 105 = bop .add .u64 (ρ 59) (ρ 104) := by have h := hd 105 _ (by decide) rfl; exact h
  have d106 : ρ 106 = bop .add .u64 (ρ 57) (ρ 105) := by have h := hd 106 _ (by decide) rfl; exact h
  have d107 : ρ 107 = bop .add .u64 (ρ 55) (ρ 106) := by have h := hd 107 _ (by decide) rfl; exact h
  have d108 : ρ 108 = bop .add .u64 (ρ 53) (ρ 107) := by have h := hd 108 _ (by decide) rfl; exact h
  have d109 : ρ 109 = bop .add .u64 (ρ 51) (ρ 108) := by have h := hd 109 _ (by decide) rfl; exact h
  have d110 : ρ 110 = bop .add .u64 (ρ 49) (ρ 109) := by have h := hd 110 _ (by decide) rfl; exact h
  have d111 : ρ 111 = bop .add .u64 (ρ 47) (ρ 110) := by have h := hd 111 _ (by decide) rfl; exact h
  have d112 : ρ 112 = IntKind.u64.wrap (ρ 24) := by have h := hd 112 _ (by decide) rfl; exact h
  have d113 : ρ 113 = bop .add .u64 (ρ 45) (ρ 112) := by have h := hd 113 _ (by decide) rfl; exact h
  have d114 : ρ 114 = bop .add .u64 (ρ 43) (ρ 113) := by have h := hd 114 _ (by decide) rfl; exact h
  have d115 : ρ 115 = bop .add .u64 (ρ 41) (ρ 114) := by have h := hd 115 _ (by decide) rfl; exact h
  have d116 : ρ 116 = bop .add .u64 (ρ 39) (ρ 115) := by have h := hd 116 _ (by decide) rfl; exact h
  have d117 : ρ 117 = bop .add .u64 (ρ 37) (ρ 116) := by have h := hd 117 _ (by decide) rfl; exact h
  have d118 : ρ 118 = bop .add .u64 (ρ 35) (ρ 117) := by have h := hd 118 _ (by decide) rfl; exact h
  have d119 : ρ 119 = bop .add .u64 (ρ 33) (ρ 118) := by have h := hd 119 _ (by decide) rfl; exact h
  have e32 := fb_c _ _ (h8 31 (by decide)) d32
  have e33 := fb_s56 _ _ _ (h8 31 (by decide)) e32 d33
  have e34 := fb_c _ _ (h8 30 (by decide)) d34
  have e35 := fb_s48 _ _ _ (h8 30 (by decide)) e34 d35
  have e36 := fb_c _ _ (h8 29 (by decide)) d36
  have e37 := fb_s40 _ _ _ (h8 29 (by decide)) e36 d37
  have e38 := fb_c _ _ (h8 28 (by decide)) d38
  have e39 := fb_s32 _ _ _ (h8 28 (by decide)) e38 d39
  have e40 := fb_c _ _ (h8 27 (by decide)) d40
  have e41 := fb_s24 _ _ _ (h8 27 (by decide)) e40 d41
  have e42 := fb_c _ _ (h8 26 (by decide)) d42
  have e43 := fb_s16 _ _ _ (h8 26 (by decide)) e42 d43
  have e44 := fb_c _ _ (h8 25 (by decide)) d44
  have e45 := fb_s8 _ _ _ (h8 25 (by decide)) e44 d45
  have e46 := fb_c _ _ (h8 23 (by decide)) d46
  have e47 := fb_s56 _ _ _ (h8 23 (by decide)) e46 d47
  have e48 := fb_c _ _ (h8 22 (by decide)) d48
  have e49 := fb_s48 _ _ _ (h8 22 (by decide)) e48 d49
  have e50 := fb_c _ _ (h8 21 (by decide)) d50
  have e51 := fb_s40 _ _ _ (h8 21 (by decide)) e50 d51
  have e52 := fb_c _ _ (h8 20 (by decide)) d52
  have e53 := fb_s32 _ _ _ (h8 20 (by decide)) e52 d53
  have e54 := fb_c _ _ (h8 19 (by decide)) d54
  have e55 := fb_s24 _ _ _ (h8 19 (by decide)) e54 d55
  have e56 := fb_c _ _ (h8 18 (by decide)) d56
  have e57 := fb_s16 _ _ _ (h8 18 (by decide)) e56 d57
  have e58 := fb_c _ _ (h8 17 (by decide)) d58
  have e59 := fb_s8 _ _ _ (h8 17 (by decide)) e58 d59
  have e60 := fb_c _ _ (h8 15 (by decide)) d60
  have e61 := fb_s56 _ _ _ (h8 15 (by decide)) e60 d61
  have e62 := fb_c _ _ (h8 14 (by decide)) d62
  have e63 := fb_s48 _ _ _ (h8 14 (by decide)) e62 d63
  have e64 := fb_c _ _ (h8 13 (by decide)) d64
  have e65 := fb_s40 _ _ _ (h8 13 (by decide)) e64 d65
  have e66 := fb_c _ _ (h8 12 (by decide)) d66
  have e67 := fb_s32 _ _ _ (h8 12 (by decide)) e66 d67
  have e68 := fb_c _ _ (h8 11 (by decide)) d68
  have e69 := fb_s24 _ _ _ (h8 11 (by decide)) e68 d69
  have e70 := fb_c _ _ (h8 10 (by decide)) d70
  have e71 := fb_s16 _ _ _ (h8 10 (by decide)) e70 d71
  have e72 := fb_c _ _ (h8 9 (by decide)) d72
  have e73 := fb_s8 _ _ _ (h8 9 (by decide)) e72 d73
  have e74 := fb_c _ _ (h8 7 (by decide)) d74
  have e75 := fb_s56 _ _ _ (h8 7 (by decide)) e74 d75
  have e76 := fb_c _ _ (h8 6 (by decide)) d76
  have e77 := fb_s48 _ _ _ (h8 6 (by decide)) e76 d77
  have e78 := fb_c _ _ (h8 5 (by decide)) d78
  have e79 := fb_s40 _ _ _ (h8 5 (by decide)) e78 d79
  have e80 := fb_c _ _ (h8 4 (by decide)) d80
  have e81 := fb_s32 _ _ _ (h8 4 (by decide)) e80 d81
  have e82 := fb_c _ _ (h8 3 (by decide)) d82
  have e83 := fb_s24 _ _ _ (h8 3 (by decide)) e82 d83
  have e84 := fb_c _ _ (h8 2 (by decide)) d84
  have e85 := fb_s16 _ _ _ (h8 2 (by decide)) e84 d85
  have e86 := fb_c _ _ (h8 1 (by decide)) d86
  have e87 := fb_s8 _ _ _ (h8 1 (by decide)) e86 d87
  have e88 := fb_c _ _ (h8 0 (by decide)) d88
  have w89 := fb_b2 _ _ (h8 0 (by decide)) (h8 1 (by decide))
  have e89 := fb_a _ _ _ _ _ e87 e88 d89 w89.1 w89.2
  have w90 := fb_b3 _ _ _ (h8 0 (by decide)) (h8 1 (by decide)) (h8 2 (by decide))
  have e90 := fb_a _ _ _ _ _ e85 e89 d90 w90.1 w90.2
  have w91 := fb_b4 _ _ _ _ (h8 0 (by decide)) (h8 1 (by decide)) (h8 2 (by decide)) (h8 3 (by decide))
  have e91 := fb_a _ _ _ _ _ e83 e90 d91 w91.1 w91.2
  have w92 := fb_b5 _ _ _ _ _ (h8 0 (by decide)) (h8 1 (by decide)) (h8 2 (by decide)) (h8 3 (by decide)) (h8 4 (by decide))
  have e92 := fb_a _ _ _ _ _ e81 e91 d92 w92.1 w92.2
  have w93 := fb_b6 _ _ _ _ _ _ (h8 0 (by decide)) (h8 1 (by decide)) (h8 2 (by decide)) (h8 3 (by decide)) (h8 4 (by decide)) (h8 5 (by decide))
  have e93 := fb_a _ _ _ _ _ e79 e92 d93 w93.1 w93.2
  have w94 := fb_b7 _ _ _ _ _ _ _ (h8 0 (by decide)) (h8 1 (by decide)) (h8 2 (by decide)) (h8 3 (by decide)) (h8 4 (by decide)) (h8 5 (by decide)) (h8 6 (by decide))
  have e94 := fb_a _ _ _ _ _ e77 e93 d94 w94.1 w94.2
  have w95 := fb_b8 _ _ _ _ _ _ _ _ (h8 0 (by decide)) (h8 1 (by decide)) (h8 2 (by decide)) (h8 3 (by decide)) (h8 4 (by decide)) (h8 5 (by decide)) (h8 6 (by decide)) (h8 7 (by decide))
  have e95 := fb_a _ _ _ _ _ e75 e94 d95 w95.1 w95.2
  have e96 := fb_c _ _ (h8 8 (by decide)) d96
  have w97 := fb_b2 _ _ (h8 8 (by decide)) (h8 9 (by decide))
  have e97 := fb_a _ _ _ _ _ e73 e96 d97 w97.1 w97.2
  have w98 := fb_b3 _ _ _ (h8 8 (by decide)) (h8 9 (by decide)) (h8 10 (by decide))
  have e98 := fb_a _ _ _ _ _ e71 e97 d98 w98.1 w98.2
  have w99 := fb_b4 _ _ _ _ (h8 8 (by decide)) (h8 9 (by decide)) (h8 10 (by decide)) (h8 11 (by decide))
  have e99 := fb_a _ _ _ _ _ e69 e98 d99 w99.1 w99.2
  have w100 := fb_b5 _ _ _ _ _ (h8 8 (by decide)) (h8 9 (by decide)) (h8 10 (by decide)) (h8 11 (by decide)) (h8 12 (by decide))
  have e100 := fb_a _ _ _ _ _ e67 e99 d100 w100.1 w100.2
  have w101 := fb_b6 _ _ _ _ _ _ (h8 8 (by decide)) (h8 9 (by decide)) (h8 10 (by decide)) (h8 11 (by decide)) (h8 12 (by decide)) (h8 13 (by decide))
  have e101 := fb_a _ _ _ _ _ e65 e100 d101 w101.1 w101.2
  have w102 := fb_b7 _ _ _ _ _ _ _ (h8 8 (by decide)) (h8 9 (by decide)) (h8 10 (by decide)) (h8 11 (by decide)) (h8 12 (by decide)) (h8 13 (by decide)) (h8 14 (by decide))
  have e102 := fb_a _ _ _ _ _ e63 e101 d102 w102.1 w102.2
  have w103 := fb_b8 _ _ _ _ _ _ _ _ (h8 8 (by decide)) (h8 9 (by decide)) (h8 10 (by decide)) (h8 11 (by decide)) (h8 12 (by decide)) (h8 13 (by decide)) (h8 14 (by decide)) (h8 15 (by decide))
  have e103 := fb_a _ _ _ _ _ e61 e102 d103 w103.1 w103.2
  have e104 := fb_c _ _ (h8 16 (by decide)) d104
  have w105 := fb_b2 _ _ (h8 16 (by decide)) (h8 17 (by decide))
  have e105 := fb_a _ _ _ _ _ e59 e104 d105 w105.1 w105.2
  have w106 := fb_b3 _ _ _ (h8 16 (by decide)) (h8 17 (by decide)) (h8 18 (by decide))
  have e106 := fb_a _ _ _ _ _ e57 e105 d106 w106.1 w106.2
  have w107 := fb_b4 _ _ _ _ (h8 16 (by decide)) (h8 17 (by decide)) (h8 18 (by decide)) (h8 19 (by decide))
  have e107 := fb_a _ _ _ _ _ e55 e106 d107 w107.1 w107.2
  have w108 := fb_b5 _ _ _ _ _ (h8 16 (by decide)) (h8 17 (by decide)) (h8 18 (by decide)) (h8 19 (by decide)) (h8 20 (by decide))
  have e108 := fb_a _ _ _ _ _ e53 e107 d108 w108.1 w108.2
  have w109 := fb_b6 _ _ _ _ _ _ (h8 16 (by decide)) (h8 17 (by decide)) (h8 18 (by decide)) (h8 19 (by decide)) (h8 20 (by decide)) (h8 21 (by decide))
  have e109 := fb_a _ _ _ _ _ e51 e108 d109 w109.1 w109.2
  have w110 := fb_b7 _ _ _ _ _ _ _ (h8 16 (by decide)) (h8 17 (by decide)) (h8 18 (by decide)) (h8 19 (by decide)) (h8 20 (by decide)) (h8 21 (by decide)) (h8 22 (by decide))
  have e110 := fb_a _ _ _ _ _ e49 e109 d110 w110.1 w110.2
  have w111 := fb_b8 _ _ _ _ _ _ _ _ (h8 16 (by decide)) (h8 17 (by decide)) (h8 18 (by decide)) (h8 19 (by decide)) (h8 20 (by decide)) (h8 21 (by decide)) (h8 22 (by decide)) (h8 23 (by decide))
  have e111 := fb_a _ _ _ _ _ e47 e110 d111 w111.1 w111.2
  have e112 := fb_c _ _ (h8 24 (by decide)) d112
  have w113 := fb_b2 _ _ (h8 24 (by decide)) (h8 25 (by decide))
  have e113 := fb_a _ _ _ _ _ e45 e112 d113 w113.1 w113.2
  have w114 := fb_b3 _ _ _ (h8 24 (by decide)) (h8 25 (by decide)) (h8 26 (by decide))
  have e114 := fb_a _ _ _ _ _ e43 e113 d114 w114.1 w114.2
  have w115 := fb_b4 _ _ _ _ (h8 24 (by decide)) (h8 25 (by decide)) (h8 26 (by decide)) (h8 27 (by decide))
  have e115 := fb_a _ _ _ _ _ e41 e114 d115 w115.1 w115.2
  have w116 := fb_b5 _ _ _ _ _ (h8 24 (by decide)) (h8 25 (by decide)) (h8 26 (by decide)) (h8 27 (by decide)) (h8 28 (by decide))
  have e116 := fb_a _ _ _ _ _ e39 e115 d116 w116.1 w116.2
  have w117 := fb_b6 _ _ _ _ _ _ (h8 24 (by decide)) (h8 25 (by decide)) (h8 26 (by decide)) (h8 27 (by decide)) (h8 28 (by decide)) (h8 29 (by decide))
  have e117 := fb_a _ _ _ _ _ e37 e116 d117 w117.1 w117.2
  have w118 := fb_b7 _ _ _ _ _ _ _ (h8 24 (by decide)) (h8 25 (by decide)) (h8 26 (by decide)) (h8 27 (by decide)) (h8 28 (by decide)) (h8 29 (by decide)) (h8 30 (by decide))
  have e118 := fb_a _ _ _ _ _ e35 e117 d118 w118.1 w118.2
  have w119 := fb_b8 _ _ _ _ _ _ _ _ (h8 24 (by decide)) (h8 25 (by decide)) (h8 26 (by decide)) (h8 27 (by decide)) (h8 28 (by decide)) (h8 29 (by decide)) (h8 30 (by decide)) (h8 31 (by decide))
  have e119 := fb_a _ _ _ _ _ e33 e118 d119 w119.1 w119.2
  rw [e95, e103, e111, e119]
  exact fb_q _ _ _ _ _ _ _ _ _ _ _ _ _ _ _ _ _ _ _ _ _ _ _ _ _ _ _ _ _ _ _ _

/-- One, in Montgomery form. -/
theorem one_q : qal [1, 18446744069414584320, 18446744073709551615, 4294967294] = 26959946660873538059280334323183841250350249843923952699046031785985 := by decide +kernel
end Go.Proofs.Ytgdjmgcolipcnaa
