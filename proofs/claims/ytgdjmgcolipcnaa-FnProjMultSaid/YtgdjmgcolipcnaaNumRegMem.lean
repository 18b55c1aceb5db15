/-
  What is proved here: plain laws of numbers by their digits (words of 32 bits). No program in sight.
  Conditions: none.
-/
import Derived.WalkKit
import Derived.Laws.BitsAllLaws
import Derived.StillTail
import Derived.BigQuiet
import Derived.Deep.QuietTactic
import Derived.Below
import Derived.Deep.WholeRow
import Derived.Laws.Tables
import Derived.Laws.Externs
import Derived.Deep.RegionHeld
import Derived.Laws.Rows
import Derived.Lib.Hide
namespace Go.Proofs.Ytgdjmgcolipcnaa
open Go.RowKit

/-- The k lowest digits of a number, to the base 2^32, the lowest first. -/
def digs : Nat → Int → List Int
  | 0, _ => []
  | k + 1, S => (S % 4294967296) :: digs k (S / 4294967296)

/-- A number by its digits, each whatever it may be. -/
def val : List Int → Int
  | [] => 0
  | a :: l => a + 4294967296 * val l

/-- What is carried out of k digits. -/
def cy : Nat → Int → Int
  | 0, S => S
  | k + 1, S => cy k (S / 4294967296)

/-- An element of eight words. -/
def E8 (S : Int) : Value := .agg ((digs 8 S).map (Value.int .i64)).toArray

/-- The digits as the code carries them on. -/
def chn : Int → List Int → List Int
  | _, [] => []
  | c, a :: l => ((c + a) % 4294967296) :: chn ((c + a) / 4294967296) l
def chc : Int → List Int → Int
  | c, [] => c
  | c, a :: l => chc ((c + a) / 4294967296) l

theorem digs_length : ∀ k S, (digs k S).length = k
  | 0, _ => rfl
  | k + 1, S => by simp [digs, digs_length k]

theorem digs_bd : ∀ k S, ∀ x ∈ digs k S, 0 ≤ x ∧ x < 4294967296
  | 0, _, x, h => by simp [digs] at h
  | k + 1, S, x, h => by
    simp only [digs, List.mem_cons] at h
    rcases h with rfl | h
    · omega
    · exact digs_bd k _ x h

theorem chn_digs : ∀ (l : List Int) (c : Int), chn c l = digs l.length (c + val l)
  | [], _ => rfl
  | a :: l, c => by
    have h := chn_digs l ((c + a) / 4294967296)
    simp only [chn, val, List.length_cons, digs]
    rw [h]
    congr 1
    · omega
    · congr 1; omega

theorem chc_cy : ∀ (l : List Int) (c : Int), chc c l = cy l.length (c + val l)
  | [], c => by simp [chc, cy, val]
  | a :: l, c => by
    have h := chc_cy l ((c + a) / 4294967296)
    simp only [chc, val, List.length_cons, cy]
    rw [h]
    congr 1; omega

theorem val_digs : ∀ k S, val (digs k S) = S - 4294967296 ^ k * cy k S
  | 0, S => by simp [digs, val, cy]
  | k + 1, S => by
    have h := val_digs k (S / 4294967296)
    simp only [digs, val, cy]
    rw [h, Int.mul_sub, Int.pow_succ, Int.mul_comm (4294967296 ^ k) 4294967296, Int.mul_assoc]
    have := Int.emod_add_mul_ediv S 4294967296
    omega

theorem digs_val : ∀ l : List Int, (∀ x ∈ l, 0 ≤ x ∧ x < 4294967296) → digs l.length (val l) = l
  | [], _ => rfl
  | a :: l, h => by
    have ha := h a (by simp)
    have ih := digs_val l (fun x hx => h x (by simp [hx]))
    simp only [List.length_cons, digs, val]
    have e1 : (a + 4294967296 * val l) % 4294967296 = a := by omega
    have e2 : (a + 4294967296 * val l) / 4294967296 = val l := by omega
    rw [e1, e2, ih]

theorem val_bd : ∀ l : List Int, (∀ x ∈ l, 0 ≤ x ∧ x < 4294967296) → 0 ≤ val l ∧ val l < 4294967296 ^ l.length
  | [], _ => by simp [val]
  | a :: l, h => by
    have ha := h a (by simp)
    have ih := val_bd l (fun x hx => h x (by simp [hx]))
    simp only [List.length_cons, val, Int.pow_succ]
    omega

theorem cy_zero : ∀ k S, 0 ≤ S → S < 4294967296 ^ k → cy k S = 0
  | 0, S, h0, h1 => by simp [cy] at *; omega
  | k + 1, S, h0, h1 => by
    rw [Int.pow_succ] at h1
    exact cy_zero k _ (by omega) (by omega)

theorem cy_eq : ∀ k S, cy k S = S / 4294967296 ^ k
  | 0, S => by simp [cy]
  | k + 1, S => by
    rw [cy, cy_eq k, Int.pow_succ, Int.mul_comm, Int.ediv_ediv_of_nonneg (by decide)]

/-- 2^256, and the order of the group. -/
def R256 : Int := 115792089237316195423570985008687907853269984665640564039457584007913129639936
def ordN : Int := 115792089210356248762697446949407573529996955224135760342422259061068512044369

theorem pow8 : (4294967296 : Int) ^ 8 = R256 := by decide +kernel

theorem E8_val (l : List Int) (hl : l.length = 8) (h : ∀ x ∈ l, 0 ≤ x ∧ x < 4294967296) : Value.agg (l.map (Value.int .i64)).toArray = E8 (val l) := by
  unfold E8; rw [← hl, digs_val l h]


/-! The same to the base 2^64, and 2^8. -/
/-- The k lowest digits of a number, to the base 2^64, the lowest first. -/
def qds : Nat → Int → List Int
  | 0, _ => []
  | k + 1, S => (S % 18446744073709551616) :: qds k (S / 18446744073709551616)

/-- A number by its digits, each whatever it may be. -/
def qal : List Int → Int
  | [] => 0
  | a :: l => a + 18446744073709551616 * qal l

/-- What is carried out of k digits. -/
def qy : Nat → Int → Int
  | 0, S => S
  | k + 1, S => qy k (S / 18446744073709551616)

theorem qds_length : ∀ k S, (qds k S).length = k
  | 0, _ => rfl
  | k + 1, S => by simp [qds, qds_length k]

theorem qds_bd : ∀ k S, ∀ x ∈ qds k S, 0 ≤ x ∧ x < 18446744073709551616
  | 0, _, x, h => by simp [qds] at h
  | k + 1, S, x, h => by
    simp only [qds, List.mem_cons] at h
    rcases h with rfl | h
    · omega
    · exact qds_bd k _ x h

theorem qal_qds : ∀ k S, qal (qds k S) = S - 18446744073709551616 ^ k * qy k S
  | 0, S => by simp [qds, qal, qy]
  | k + 1, S => by
    have h := qal_qds k (S / 18446744073709551616)
    simp only [qds, qal, qy]
    rw [h, Int.mul_sub, Int.pow_succ, Int.mul_comm (18446744073709551616 ^ k) 18446744073709551616, Int.mul_assoc]
    have := Int.emod_add_mul_ediv S 18446744073709551616
    omega

theorem qds_qal : ∀ l : List Int, (∀ x ∈ l, 0 ≤ x ∧ x < 18446744073709551616) → qds l.length (qal l) = l
  | [], _ => rfl
  | a :: l, h => by
    have ha := h a (by simp)
    have ih := qds_qal l (fun x hx => h x (by simp [hx]))
    simp only [List.length_cons, qds, qal]
    have e1 : (a + 18446744073709551616 * qal l) % 18446744073709551616 = a := by omega
    have e2 : (a + 18446744073709551616 * qal l) / 18446744073709551616 = qal l := by omega
    rw [e1, e2, ih]

theorem qal_bd : ∀ l : List Int, (∀ x ∈ l, 0 ≤ x ∧ x < 18446744073709551616) → 0 ≤ qal l ∧ qal l < 18446744073709551616 ^ l.length
  | [], _ => by simp [qal]
  | a :: l, h => by
    have ha := h a (by simp)
    have ih := qal_bd l (fun x hx => h x (by simp [hx]))
    simp only [List.length_cons, qal, Int.pow_succ]
    omega

theorem qy_zero : ∀ k S, 0 ≤ S → S < 18446744073709551616 ^ k → qy k S = 0
  | 0, S, h0, h1 => by simp [qy] at *; omega
  | k + 1, S, h0, h1 => by
    rw [Int.pow_succ] at h1
    exact qy_zero k _ (by omega) (by omega)

/-- The k lowest digits of a number, to the base 2^8, the lowest first. -/
def bds : Nat → Int → List Int
  | 0, _ => []
  | k + 1, S => (S % 256) :: bds k (S / 256)

/-- A number by its digits, each whatever it may be. -/
def bal : List Int → Int
  | [] => 0
  | a :: l => a + 256 * bal l

/-- What is carried out of k digits. -/
def by8 : Nat → Int → Int
  | 0, S => S
  | k + 1, S => by8 k (S / 256)

theorem bds_length : ∀ k S, (bds k S).length = k
  | 0, _ => rfl
  | k + 1, S => by simp [bds, bds_length k]

theorem bds_bd : ∀ k S, ∀ x ∈ bds k S, 0 ≤ x ∧ x < 256
  | 0, _, x, h => by simp [bds] at h
  | k + 1, S, x, h => by
    simp only [bds, List.mem_cons] at h
    rcases h with rfl | h
    · omega
    · exact bds_bd k _ x h

theorem bal_bds : ∀ k S, bal (bds k S) = S - 256 ^ k * by8 k S
  | 0, S => by simp [bds, bal, by8]
  | k + 1, S => by
    have h := bal_bds k (S / 256)
    simp only [bds, bal, by8]
    rw [h, Int.mul_sub, Int.pow_succ, Int.mul_comm (256 ^ k) 256, Int.mul_assoc]
    have := Int.emod_add_mul_ediv S 256
    omega

theorem bds_bal : ∀ l : List Int, (∀ x ∈ l, 0 ≤ x ∧ x < 256) → bds l.length (bal l) = l
  | [], _ => rfl
  | a :: l, h => by
    have ha := h a (by simp)
    have ih := bds_bal l (fun x hx => h x (by simp [hx]))
    simp only [List.length_cons, bds, bal]
    have e1 : (a + 256 * bal l) % 256 = a := by omega
    have e2 : (a + 256 * bal l) / 256 = bal l := by omega
    rw [e1, e2, ih]

theorem bal_bd : ∀ l : List Int, (∀ x ∈ l, 0 ≤ x ∧ x < 256) → 0 ≤ bal l ∧ bal l < 256 ^ l.length
  | [], _ => by simp [bal]
  | a :: l, h => by
    have ha := h a (by simp)
    have ih := bal_bd l (fun x hx => h x (by simp [hx]))
    simp only [List.length_cons, bal, Int.pow_succ]
    omega

theorem by8_zero : ∀ k S, 0 ≤ S → S < 256 ^ k → by8 k S = 0
  | 0, S, h0, h1 => by simp [by8] at *; omega
  | k + 1, S, h0, h1 => by
    rw [Int.pow_succ] at h1
    exact by8_zero k _ (by omega) (by omega)


/-- Four words; thirty-two bytes, the highest first. -/
def L4 (S : Int) : Value := .agg ((qds 4 S).map (Value.int .u64)).toArray
def B32 (S : Int) : Value := .agg ((bds 32 S).reverse.map (Value.int .u8)).toArray

/-- The number of bytes, the highest first. -/
def be (l : List Int) : Int := bal l.reverse

theorem pow4 : (18446744073709551616 : Int) ^ 4 = R256 := by decide +kernel
theorem pow32 : (256 : Int) ^ 32 = R256 := by decide +kernel

theorem L4_val (l : List Int) (hl : l.length = 4) (h : ∀ x ∈ l, 0 ≤ x ∧ x < 18446744073709551616) : Value.agg (l.map (Value.int .u64)).toArray = L4 (qal l) := by
  unfold L4; rw [← hl, qds_qal l h]

theorem B32_val (l : List Int) (hl : l.length = 32) (h : ∀ x ∈ l, 0 ≤ x ∧ x < 256) : Value.agg (l.map (Value.int .u8)).toArray = B32 (be l) := by
  unfold B32 be
  have h1 := bds_bal l.reverse (fun x hx => h x (by simpa using hx))
  rw [List.length_reverse, hl] at h1
  rw [h1, List.reverse_reverse]

theorem qal_bd4 (l : List Int) (hl : l.length = 4) (h : ∀ x ∈ l, 0 ≤ x ∧ x < 18446744073709551616) : 0 ≤ qal l ∧ qal l < R256 := by
  have h1 := qal_bd l h
  rw [hl, pow4] at h1
  exact h1
theorem val_bd8 (l : List Int) (hl : l.length = 8) (h : ∀ x ∈ l, 0 ≤ x ∧ x < 4294967296) : 0 ≤ val l ∧ val l < R256 := by
  have h1 := val_bd l h
  rw [hl, pow8] at h1
  exact h1
theorem be_bd (l : List Int) (hl : l.length = 32) (h : ∀ x ∈ l, 0 ≤ x ∧ x < 256) : 0 ≤ be l ∧ be l < R256 := by
  have h1 := bal_bd l.reverse (fun x hx => h x (by simpa using hx))
  rw [List.length_reverse, hl, pow32] at h1
  exact h1
theorem val_E8 {S : Int} (h0 : 0 ≤ S) (h : S < R256) : val (digs 8 S) = S := by
  rw [val_digs, cy_zero 8 S h0 (by rw [pow8]; exact h)]; omega
theorem qal_L4 {S : Int} (h0 : 0 ≤ S) (h : S < R256) : qal (qds 4 S) = S := by
  rw [qal_qds, qy_zero 4 S h0 (by rw [pow4]; exact h)]; omega
theorem bal_B32 {S : Int} (h0 : 0 ≤ S) (h : S < R256) : bal (bds 32 S) = S := by
  rw [bal_bds, by8_zero 32 S h0 (by rw [pow32]; exact h)]; omega
theorem L4_inj {a b : Int} (ha0 : 0 ≤ a) (ha : a < R256) (hb0 : 0 ≤ b) (hb : b < R256) (h : qds 4 a = qds 4 b) : a = b := by
  rw [← qal_L4 ha0 ha, ← qal_L4 hb0 hb, h]

/-- Two numbers of digits alike are alike. -/
theorem digs_inj {a b : Int} (ha0 : 0 ≤ a) (ha : a < R256) (hb0 : 0 ≤ b) (hb : b < R256) (h : digs 8 a = digs 8 b) : a = b := by
  have h1 := val_digs 8 a
  have h2 := val_digs 8 b
  rw [cy_zero 8 a ha0 (by rw [pow8]; exact ha)] at h1
  rw [cy_zero 8 b hb0 (by rw [pow8]; exact hb)] at h2
  rw [h] at h1; omega

/-- The order of digits from the highest one, as the code compares them. -/
def lexlt : List Int → List Int → Bool
  | a :: l, b :: m => if l = m then decide (a < b) else lexlt l m
  | _, _ => false

theorem lexlt_val : ∀ (l m : List Int), l.length = m.length → (∀ x ∈ l, 0 ≤ x ∧ x < 4294967296) → (∀ x ∈ m, 0 ≤ x ∧ x < 4294967296) → lexlt l m = decide (val l < val m)
  | [], [], _, _, _ => by simp [lexlt, val]
  | [], _ :: _, h, _, _ => by simp at h
  | _ :: _, [], h, _, _ => by simp at h
  | a :: l, b :: m, h, hl, hm => by
    have ih := lexlt_val l m (by simpa using h) (fun x hx => hl x (by simp [hx])) (fun x hx => hm x (by simp [hx]))
    have ha := hl a (by simp)
    have hb := hm b (by simp)
    simp only [lexlt]
    split
    · rename_i e; subst e
      exact decide_eq_decide.2 (by simp only [val]; omega)
    · rename_i e
      have hne : val l ≠ val m := by
        intro hv
        apply e
        have h1 := digs_val l (fun x hx => hl x (by simp [hx]))
        have h2 := digs_val m (fun x hx => hm x (by simp [hx]))
        rw [← h1, ← h2, hv]
        congr 1
        simpa using h
      rw [ih]
      exact decide_eq_decide.2 (by simp only [val]; omega)

theorem E8_open (S : Int) : ∃ d0 d1 d2 d3 d4 d5 d6 d7 : Int, digs 8 S = [d0, d1, d2, d3, d4, d5, d6, d7] ∧ E8 S = .agg #[.int .i64 d0, .int .i64 d1, .int .i64 d2, .int .i64 d3, .int .i64 d4, .int .i64 d5, .int .i64 d6, .int .i64 d7] ∧ (0 ≤ d0 ∧ d0 < 4294967296) ∧ (0 ≤ d1 ∧ d1 < 4294967296) ∧ (0 ≤ d2 ∧ d2 < 4294967296) ∧ (0 ≤ d3 ∧ d3 < 4294967296) ∧ (0 ≤ d4 ∧ d4 < 4294967296) ∧ (0 ≤ d5 ∧ d5 < 4294967296) ∧ (0 ≤ d6 ∧ d6 < 4294967296) ∧ (0 ≤ d7 ∧ d7 < 4294967296) := by
  have h1 := digs_length 8 S
  have h2 := digs_bd 8 S
  unfold E8
  match digs 8 S, h1, h2 with
  | [d0, d1, d2, d3, d4, d5, d6, d7], _, h2 =>
    exact ⟨d0, d1, d2, d3, d4, d5, d6, d7, rfl, rfl, h2 d0 (by simp), h2 d1 (by simp), h2 d2 (by simp), h2 d3 (by simp), h2 d4 (by simp), h2 d5 (by simp), h2 d6 (by simp), h2 d7 (by simp)⟩

theorem L4_open (S : Int) : ∃ d0 d1 d2 d3 : Int, qds 4 S = [d0, d1, d2, d3] ∧ L4 S = .agg #[.int .u64 d0, .int .u64 d1, .int .u64 d2, .int .u64 d3] ∧ (0 ≤ d0 ∧ d0 < 18446744073709551616) ∧ (0 ≤ d1 ∧ d1 < 18446744073709551616) ∧ (0 ≤ d2 ∧ d2 < 18446744073709551616) ∧ (0 ≤ d3 ∧ d3 < 18446744073709551616) := by
  have h1 := qds_length 4 S
  have h2 := qds_bd 4 S
  unfold L4
  match qds 4 S, h1, h2 with
  | [d0, d1, d2, d3], _, h2 =>
    exact ⟨d0, d1, d2, d3, rfl, rfl, h2 d0 (by simp), h2 d1 (by simp), h2 d2 (by simp), h2 d3 (by simp)⟩

theorem B32_open (S : Int) : ∃ d0 d1 d2 d3 d4 d5 d6 d7 d8 d9 d10 d11 d12 d13 d14 d15 d16 d17 d18 d19 d20 d21 d22 d23 d24 d25 d26 d27 d28 d29 d30 d31 : Int, bds 32 S = [d0, d1, d2, d3, d4, d5, d6, d7, d8, d9, d10, d11, d12, d13, d14, d15, d16, d17, d18, d19, d20, d21, d22, d23, d24, d25, d26, d27, d28, d29, d30, d31] ∧ B32 S = .agg #[.int .u8 d31, .int .u8 d30, .int .u8 d29, .int .u8 d28, .int .u8 d27, .int .u8 d26, .int .u8 d25, .int .u8 d24, .int .u8 d23, .int .u8 d22, .int .u8 d21, .int .u8 d20, .int .u8 d19, .int .u8 d18, .int .u8 d17, .int .u8 d16, .int .u8 d15, .int .u8 d14, .int .u8 d13, .int .u8 d12, .int .u8 d11, .int .u8 d10, .int .u8 d9, .int .u8 d8, .int .u8 d7, .int .u8 d6, .int .u8 d5, .int .u8 d4, .int .u8 d3, .int .u8 d2, .int .u8 d1, .int .u8 d0] ∧ (0 ≤ d0 ∧ d0 < 256) ∧ (0 ≤ d1 ∧ d1 < 256) ∧ (0 ≤ d2 ∧ d2 < 256) ∧ (0 ≤ d3 ∧ d3 < 256) ∧ (0 ≤ d4 ∧ d4 < 256) ∧ (0 ≤ d5 ∧ d5 < 256) ∧ (0 ≤ d6 ∧ d6 < 256) ∧ (0 ≤ d7 ∧ d7 < 256) ∧ (0 ≤ d8 ∧ d8 < 256) ∧ (0 ≤ d9 ∧ d9 < 256) ∧ (0 ≤ d10 ∧ d10 < 256) ∧ (0 ≤ d11 ∧ d11 < 256) ∧ (0 ≤ d12 ∧ d12 < 256) ∧ (0 ≤ d13 ∧ d13 < 256) ∧ (0 ≤ d14 ∧ d14 < 256) ∧ (0 ≤ d15 ∧ d15 < 256) ∧ (0 ≤ d16 ∧ d16 < 256) ∧ (0 ≤ d17 ∧ d17 < 256) ∧ (0 ≤ d18 ∧ d18 < 256) ∧ (0 ≤ d19 ∧ d19 < 256) ∧ (0 ≤ d20 ∧ d20 < 256) ∧ (0 ≤ d21 ∧ d21 < 256) ∧ (0 ≤ d22 ∧ d22 < 256) ∧ (0 ≤ d23 ∧ d23 < 256) ∧ (0 ≤ d24 ∧ d24 < 256) ∧ (0 ≤ d25 ∧ d25 < 256) ∧ (0 ≤ d26 ∧ d26 < 256) ∧ (0 ≤ d27 ∧ d27 < 256) ∧ (0 ≤ d28 ∧ d28 < 256) ∧ (0 ≤ d29 ∧ d29 < 256) ∧ (0 ≤ d30 ∧ d30 < 256) ∧ (0 ≤ d31 ∧ d31 < 256) := by
  have h1 := bds_length 32 S
  have h2 := bds_bd 32 S
  unfold B32
  match bds 32 S, h1, h2 with
  | [d0, d1, d2, d3, d4, d5, d6, d7, d8, d9, d10, d11, d12, d13, d14, d15, d16, d17, d18, d19, d20, d21, d22, d23, d24, d25, d26, d27, d28, d29, d30, d31], _, h2 =>
    exact ⟨d0, d1, d2, d3, d4, d5, d6, d7, d8, d9, d10, d11, d12, d13, d14, d15, d16, d17, d18, d19, d20, d21, d22, d23, d24, d25, d26, d27, d28, d29, d30, d31, rfl, rfl, h2 d0 (by simp), h2 d1 (by simp), h2 d2 (by simp), h2 d3 (by simp), h2 d4 (by simp), h2 d5 (by simp), h2 d6 (by simp), h2 d7 (by simp), h2 d8 (by simp), h2 d9 (by simp), h2 d10 (by simp), h2 d11 (by simp), h2 d12 (by simp), h2 d13 (by simp), h2 d14 (by simp), h2 d15 (by simp), h2 d16 (by simp), h2 d17 (by simp), h2 d18 (by simp), h2 d19 (by simp), h2 d20 (by simp), h2 d21 (by simp), h2 d22 (by simp), h2 d23 (by simp), h2 d24 (by simp), h2 d25 (by simp), h2 d26 (by simp), h2 d27 (by simp), h2 d28 (by simp), h2 d29 (by simp), h2 d30 (by simp), h2 d31 (by simp)⟩

theorem and_mask (c : Int) : bits BinOp.and IntKind.i64 c 4294967295 = c % 4294967296 := by
  have e : (BitVec.ofInt 64 c &&& BitVec.ofInt 64 4294967295).toNat = (c % 4294967296).toNat := by
    rw [BitVec.toNat_and]
    have h1 : (BitVec.ofInt 64 4294967295).toNat = 4294967295 := by decide
    have h2 : (BitVec.ofInt 64 c).toNat = (c % 18446744073709551616).toNat := by simp [BitVec.toNat_ofInt]
    rw [h1, h2, show (4294967295 : Nat) = 2 ^ 32 - 1 from rfl, Nat.and_two_pow_sub_one_eq_mod]
    omega
  show IntKind.i64.wrap (((BitVec.ofInt 64 c &&& BitVec.ofInt 64 4294967295).toNat : Nat) : Int) = _
  rw [e, show (((c % 4294967296).toNat : Nat) : Int) = c % 4294967296 by omega]
  simp [IntKind.wrap, IntKind.signed, IntKind.bits]
  omega
end Go.Proofs.Ytgdjmgcolipcnaa
/-
  What is proved here: a rule for a region that draws its order: its first operations are quiet in a class of worlds, the rest follow them one behind the other. No program in sight.
  Conditions: those of the rule.
-/
namespace Go.Proofs.Ytgdjmgcolipcnaa
open Go Go.RowKit
variable {P : Program} {md : Region.Mode} {ops : Array Oper} {C : World → Prop}

/-- Whatever order is picked: the next f operations are of the first n, each quiet; then L. -/
def headAny (P : Program) (md : Region.Mode) (ops : Array Oper) (C : World → Prop) (n : Nat) (L : Array Bool → Act → Prop) : Nat → Array Bool → Act → Prop
  | 0, listed, a => L listed a
  | f + 1, listed, a =>
    Region.ready md ops listed ≠ [] ∧ ∀ i ∈ Region.ready md ops listed, i < n ∧ qOp P ops C i (headAny P md ops C n L f (listed.setIfInBounds i true)) a

theorem headAny_any {n g : Nat} {L : Array Bool → Act → Prop} {Q' : Exit → Act → World → Prop} (hL : ∀ listed a w, C w → L listed a → wpAny P md ops Q' g listed a w) :
    ∀ (f : Nat) (listed : Array Bool) (a : Act), headAny P md ops C n L f listed a → ∀ w, C w → wpAny P md ops Q' (f + g) listed a w
  | 0, listed, a, h, w, hw => by rw [Nat.zero_add]; exact hL _ _ _ hw h
  | f + 1, listed, a, h, w, hw => by
    rw [Nat.add_right_comm]
    exact ⟨fun h0 => absurd h0 h.1, fun i hi => wpOp_of_qOp hw (fun a' w' hw' h' => headAny_any hL f _ a' h' w' hw') (h.2 i hi).2⟩

theorem headAny_first {n i : Nat} {oi : Oper} {v : Value} {L : Array Bool → Act → Prop} (hi : ops[i]? = some oi) (hsel : ∀ (j : Nat) (o : Oper) cs b, ops[j]? = some o → o.op ≠ .select cs b)
    (hs : Region.sinkB md ops n = true) (hc : Region.chainB md ops n = true) (hn : n < ops.size) (hin : i < n)
    (hdone : ∀ listed a, L listed a → ∀ j ∈ Region.ready md ops listed, n ≤ j) (f : Nat) :
    ∀ (listed : Array Bool) (a : Act), HeadInv md ops n listed →
      (∀ j oj, ops[j]? = some oj → j ≠ i → listed.getD j true = false → (∀ e ∈ oj.after, Region.binds md e = true → e.on ≠ i) → oi.apart ops oj = true) →
      i ∈ Region.ready md ops listed → YieldsIn P ops C oi v a →
      headAny P md ops C n L f (listed.setIfInBounds i true) (a.put oi.dst v) → headAny P md ops C n L (f + 1) listed a := by
  induction f with
  | zero =>
    intro listed a inv _ hr hy H
    refine ⟨fun h => (by rw [h] at hr; cases hr), fun j hj => ?_⟩
    have hjn : j < n := (Nat.lt_or_ge j n).elim id fun h => absurd hj (tail_waits hs hc hn inv _ i rfl hin (mem_ready.1 hr).1 j h)
    refine ⟨hjn, ?_⟩
    by_cases hji : j = i
    · subst hji; exact hy.qOp hi H
    · exact absurd (hdone _ _ H j (ready_mono hj hji)) (by omega)
  | succ f ih =>
    intro listed a inv hfree hr hy H
    have hun := (mem_ready.1 hr).1
    refine ⟨fun h => (by rw [h] at hr; cases hr), fun j hj => ?_⟩
    have hjn : j < n := (Nat.lt_or_ge j n).elim id fun h => absurd hj (tail_waits hs hc hn inv _ i rfl hin hun j h)
    refine ⟨hjn, ?_⟩
    by_cases hji : j = i
    · subst hji; exact hy.qOp hi H
    · obtain ⟨hjun, oj, hoj, hall⟩ := mem_ready.1 hj
      have hnot : ∀ e ∈ oj.after, Region.binds md e = true → e.on ≠ i := fun e he hb heq => by
        have h1 := hall e he hb
        rw [heq, getD_both hun] at h1
        cases h1
      have h2 := qOp_put hoj (hfree j oj hoj hji hjun hnot) (fun cs b => hsel i oi cs b hi) (fun cs b => hsel j oj cs b hoj) hy (H.2 j (ready_mono hj hji)).2
      refine qOp_mono (fun a' h3 => ih (listed.setIfInBounds j true) a' (inv.set hj hjn) (fun k ok hk hki hku hno => hfree k ok hk hki ?_ hno) (ready_mono hr (Ne.symm hji)) h3.1 ?_) h2
      · by_cases hjk : j = k
        · subst hjk; exact hjun
        · rw [getD_set_ne true hjk] at hku; exact hku
      · rw [Array.setIfInBounds_comm _ _ hji]
        exact h3.2

theorem headAny_lex {n g : Nat} {Lq : Act → Prop} (hsel : Region.noSelect ops = true) (hs : Region.sinkB md ops n = true) (hc : Region.chainB md ops n = true) (hn : n < ops.size) :
    ∀ (l : List Oper) (k : Nat) (listed : Array Bool) (a : Act), (∀ j, j < l.length → l[j]? = ops[k + j]?) → k + l.length = n → HeadInv md ops n listed →
    Region.lexHead md ops g l.length k listed = true → wpQuiet P ops C Lq l a →
    headAny P md ops C n (fun listed' a' => Region.seqB md ops g n listed' = true ∧ Lq a') l.length listed a
  | [], k, listed, a, _, hk, _, hB, h => by
    obtain rfl : k = n := by simpa using hk
    exact ⟨by simpa [Region.lexHead] using hB, h⟩
  | o :: l, k, listed, a, hl, hk, inv, hB, h => by
    have h0 : ops[k]? = some o := by simpa using (hl 0 (by simp)).symm
    simp only [List.length_cons, Region.lexHead, Bool.and_eq_true] at hB
    obtain ⟨⟨hr, hf⟩, hB'⟩ := hB
    have hkn : k < n := by simp only [List.length_cons] at hk; omega
    have hr' : k ∈ Region.ready md ops listed := by simpa using hr
    have hst : qOp P ops C k (wpQuiet P ops C Lq l) a := by unfold qOp; simp only [h0]; exact h
    obtain ⟨v, hy, hK⟩ := yieldsIn_of_qOp h0 hst
    exact headAny_first h0 (Region.noSelect_spec hsel) hs hc hn hkn (fun listed' a' hL => seqB_ready hL.1) l.length listed a inv (Region.free_spec h0 hf) hr' hy
      (headAny_lex hsel hs hc hn l (k + 1) _ _ (fun j hj => by have := hl (j + 1) (by simp; omega); simpa [Nat.add_assoc, Nat.add_comm 1 j] using this) (by simp only [List.length_cons] at hk; omega) (inv.set hr' hkn) hB' hK)

/-- The rule. -/
theorem wp_quiet_tail_in {id : Nat} {Q : Exit → Act → World → Prop} {a : Act} {w : World} {l : List Oper} (n : Nat) (hm : P.follows .mixedOrders = true) (hB : Region.lexTailB .any l.toArray n = true) (hC : C w.drew)
    (h : wpQuiet P l.toArray C (fun a' => ∀ w', C w' → wpList P l.toArray Q (l.drop n) a' w') (l.take n) a) : (Code.region id l.toArray true).wp P Q a w := by
  simp only [Region.lexTailB, Bool.and_eq_true, decide_eq_true_eq] at hB
  obtain ⟨⟨⟨⟨hsel, hn⟩, hs⟩, hc⟩, hlex⟩ := hB
  have hn' : n < l.length := by simpa using hn
  have htl : (l.take n).length = n := by simp; omega
  have hdl : (l.drop n).length = l.toArray.size - n := by simp
  have inv0 : HeadInv .any l.toArray n (Array.replicate l.toArray.size false) :=
    ⟨by simp, fun j oj _ hl => (by rw [getD_replicate_false] at hl; cases hl), fun t _ ht => getD_in (by simpa using ht) (getD_replicate_false _ _)⟩
  have H := headAny_lex (C := C) (md := .any) (g := l.toArray.size - n) hsel hs hc hn (l.take n) 0 _ a (fun j hj => by
    have hj' : j < n := by rw [htl] at hj; exact hj
    simp [hj']) (by simpa using htl) inv0 (by rw [htl]; exact hlex) h
  refine wp_region_any hm ?_
  have := headAny_any (Q' := Q) (g := l.toArray.size - n) (fun listed a' w' hw' hL => by
    have := wpAny_of_seq (md := .any) (Q' := Q) (l.drop n) n listed a' w' (fun j => by simp [List.getElem?_drop]) (by rw [hdl]; exact hL.1) (hL.2 w' hw')
    rwa [hdl] at this) _ _ _ H w.drew hC
  rw [htl, show n + (l.toArray.size - n) = l.toArray.size by omega] at this
  exact this

/-- The rule at the class 'w after some draws'. -/
theorem wp_quiet_tail {id : Nat} {Q : Exit → Act → World → Prop} {a : Act} {w : World} {l : List Oper} (n : Nat) (hm : P.follows .mixedOrders = true) (hB : Region.lexTailB .any l.toArray n = true)
    (h : wpQuiet P l.toArray (fun w' => ∃ k, w' = w.drewN k) (fun a' => ∀ w', (∃ k, w' = w.drewN k) → wpList P l.toArray Q (l.drop n) a' w') (l.take n) a) : (Code.region id l.toArray true).wp P Q a w :=
  wp_quiet_tail_in (C := fun w' => ∃ k, w' = w.drewN k) n hm hB ⟨1, rfl⟩ h

/-- Draws stand outermost. -/
@[go_sem, simp] theorem setCell_drewN (w : World) (n : Nat) (a : Addr) (v : Value) : (w.drewN n).setCell a v = (w.setCell a v).drewN n := rfl
@[go_sem, simp] theorem alloc_drewN (w : World) (n : Nat) (o : Obj) : (w.drewN n).alloc o = (w.alloc o).drewN n := rfl

/-- Numbers of blocks: what came later is greater (so many steps at once: a rule's condition is followed two steps deep alone). -/
@[go_sem] theorem ltA0 {n : Nat} : (n < n + 1) = True := eq_true (by omega)
@[go_sem] theorem eqA0 {n : Nat} : (n = n + 1) = False := eq_false (by omega)
@[go_sem] theorem qeA0 {n : Nat} : (n + 1 = n) = False := eq_false (by omega)
@[go_sem] theorem ltA1 {n k1 : Nat} : (n < n + 1 + k1) = True := eq_true (by omega)
@[go_sem] theorem eqA1 {n k1 : Nat} : (n = n + 1 + k1) = False := eq_false (by omega)
@[go_sem] theorem qeA1 {n k1 : Nat} : (n + 1 + k1 = n) = False := eq_false (by omega)
@[go_sem] theorem ltB1 {b n k1 : Nat} (h : b < n) : (b < n + k1) = True := eq_true (by omega)
@[go_sem] theorem eqB1 {b n k1 : Nat} (h : b < n) : (b = n + k1) = False := eq_false (by omega)
@[go_sem] theorem qeB1 {b n k1 : Nat} (h : b < n) : (n + k1 = b) = False := eq_false (by omega)
@[go_sem] theorem ltA2 {n k1 k2 : Nat} : (n < n + 1 + k1 + k2) = True := eq_true (by omega)
@[go_sem] theorem eqA2 {n k1 k2 : Nat} : (n = n + 1 + k1 + k2) = False := eq_false (by omega)
@[go_sem] theorem qeA2 {n k1 k2 : Nat} : (n + 1 + k1 + k2 = n) = False := eq_false (by omega)
@[go_sem] theorem ltB2 {b n k1 k2 : Nat} (h : b < n) : (b < n + k1 + k2) = True := eq_true (by omega)
@[go_sem] theorem eqB2 {b n k1 k2 : Nat} (h : b < n) : (b = n + k1 + k2) = False := eq_false (by omega)
@[go_sem] theorem qeB2 {b n k1 k2 : Nat} (h : b < n) : (n + k1 + k2 = b) = False := eq_false (by omega)
@[go_sem] theorem ltA3 {n k1 k2 k3 : Nat} : (n < n + 1 + k1 + k2 + k3) = True := eq_true (by omega)
@[go_sem] theorem eqA3 {n k1 k2 k3 : Nat} : (n = n + 1 + k1 + k2 + k3) = False := eq_false (by omega)
@[go_sem] theorem qeA3 {n k1 k2 k3 : Nat} : (n + 1 + k1 + k2 + k3 = n) = False := eq_false (by omega)
@[go_sem] theorem ltB3 {b n k1 k2 k3 : Nat} (h : b < n) : (b < n + k1 + k2 + k3) = True := eq_true (by omega)
@[go_sem] theorem eqB3 {b n k1 k2 k3 : Nat} (h : b < n) : (b = n + k1 + k2 + k3) = False := eq_false (by omega)
@[go_sem] theorem qeB3 {b n k1 k2 k3 : Nat} (h : b < n) : (n + k1 + k2 + k3 = b) = False := eq_false (by omega)
@[go_sem] theorem ltA4 {n k1 k2 k3 k4 : Nat} : (n < n + 1 + k1 + k2 + k3 + k4) = True := eq_true (by omega)
@[go_sem] theorem eqA4 {n k1 k2 k3 k4 : Nat} : (n = n + 1 + k1 + k2 + k3 + k4) = False := eq_false (by omega)
@[go_sem] theorem qeA4 {n k1 k2 k3 k4 : Nat} : (n + 1 + k1 + k2 + k3 + k4 = n) = False := eq_false (by omega)
@[go_sem] theorem ltB4 {b n k1 k2 k3 k4 : Nat} (h : b < n) : (b < n + k1 + k2 + k3 + k4) = True := eq_true (by omega)
@[go_sem] theorem eqB4 {b n k1 k2 k3 k4 : Nat} (h : b < n) : (b = n + k1 + k2 + k3 + k4) = False := eq_false (by omega)
@[go_sem] theorem qeB4 {b n k1 k2 k3 k4 : Nat} (h : b < n) : (n + k1 + k2 + k3 + k4 = b) = False := eq_false (by omega)
@[go_sem] theorem ltA5 {n k1 k2 k3 k4 k5 : Nat} : (n < n + 1 + k1 + k2 + k3 + k4 + k5) = True := eq_true (by omega)
@[go_sem] theorem eqA5 {n k1 k2 k3 k4 k5 : Nat} : (n = n + 1 + k1 + k2 + k3 + k4 + k5) = False := eq_false (by omega)
@[go_sem] theorem qeA5 {n k1 k2 k3 k4 k5 : Nat} : (n + 1 + k1 + k2 + k3 + k4 + k5 = n) = False := eq_false (by omega)
@[go_sem] theorem ltB5 {b n k1 k2 k3 k4 k5 : Nat} (h : b < n) : (b < n + k1 + k2 + k3 + k4 + k5) = True := eq_true (by omega)
@[go_sem] theorem eqB5 {b n k1 k2 k3 k4 k5 : Nat} (h : b < n) : (b = n + k1 + k2 + k3 + k4 + k5) = False := eq_false (by omega)
@[go_sem] theorem qeB5 {b n k1 k2 k3 k4 k5 : Nat} (h : b < n) : (n + k1 + k2 + k3 + k4 + k5 = b) = False := eq_false (by omega)
@[go_sem] theorem ltA6 {n k1 k2 k3 k4 k5 k6 : Nat} : (n < n + 1 + k1 + k2 + k3 + k4 + k5 + k6) = True := eq_true (by omega)
@[go_sem] theorem eqA6 {n k1 k2 k3 k4 k5 k6 : Nat} : (n = n + 1 + k1 + k2 + k3 + k4 + k5 + k6) = False := eq_false (by omega)
@[go_sem] theorem qeA6 {n k1 k2 k3 k4 k5 k6 : Nat} : (n + 1 + k1 + k2 + k3 + k4 + k5 + k6 = n) = False := eq_false (by omega)
@[go_sem] theorem ltB6 {b n k1 k2 k3 k4 k5 k6 : Nat} (h : b < n) : (b < n + k1 + k2 + k3 + k4 + k5 + k6) = True := eq_true (by omega)
@[go_sem] theorem eqB6 {b n k1 k2 k3 k4 k5 k6 : Nat} (h : b < n) : (b = n + k1 + k2 + k3 + k4 + k5 + k6) = False := eq_false (by omega)
@[go_sem] theorem qeB6 {b n k1 k2 k3 k4 k5 k6 : Nat} (h : b < n) : (n + k1 + k2 + k3 + k4 + k5 + k6 = b) = False := eq_false (by omega)
@[go_sem] theorem ltA7 {n k1 k2 k3 k4 k5 k6 k7 : Nat} : (n < n + 1 + k1 + k2 + k3 + k4 + k5 + k6 + k7) = True := eq_true (by omega)
@[go_sem] theorem eqA7 {n k1 k2 k3 k4 k5 k6 k7 : Nat} : (n = n + 1 + k1 + k2 + k3 + k4 + k5 + k6 + k7) = False := eq_false (by omega)
@[go_sem] theorem qeA7 {n k1 k2 k3 k4 k5 k6 k7 : Nat} : (n + 1 + k1 + k2 + k3 + k4 + k5 + k6 + k7 = n) = False := eq_false (by omega)
@[go_sem] theorem ltB7 {b n k1 k2 k3 k4 k5 k6 k7 : Nat} (h : b < n) : (b < n + k1 + k2 + k3 + k4 + k5 + k6 + k7) = True := eq_true (by omega)
@[go_sem] theorem eqB7 {b n k1 k2 k3 k4 k5 k6 k7 : Nat} (h : b < n) : (b = n + k1 + k2 + k3 + k4 + k5 + k6 + k7) = False := eq_false (by omega)
@[go_sem] theorem qeB7 {b n k1 k2 k3 k4 k5 k6 k7 : Nat} (h : b < n) : (n + k1 + k2 + k3 + k4 + k5 + k6 + k7 = b) = False := eq_false (by omega)
@[go_sem] theorem ltA8 {n k1 k2 k3 k4 k5 k6 k7 k8 : Nat} : (n < n + 1 + k1 + k2 + k3 + k4 + k5 + k6 + k7 + k8) = True := eq_true (by omega)
@[go_sem] theorem eqA8 {n k1 k2 k3 k4 k5 k6 k7 k8 : Nat} : (n = n + 1 + k1 + k2 + k3 + k4 + k5 + k6 + k7 + k8) = False := eq_false (by omega)
@[go_sem] theorem qeA8 {n k1 k2 k3 k4 k5 k6 k7 k8 : Nat} : (n + 1 + k1 + k2 + k3 + k4 + k5 + k6 + k7 + k8 = n) = False := eq_false (by omega)
@[go_sem] theorem ltB8 {b n k1 k2 k3 k4 k5 k6 k7 k8 : Nat} (h : b < n) : (b < n + k1 + k2 + k3 + k4 + k5 + k6 + k7 + k8) = True := eq_true (by omega)
@[go_sem] theorem eqB8 {b n k1 k2 k3 k4 k5 k6 k7 k8 : Nat} (h : b < n) : (b = n + k1 + k2 + k3 + k4 + k5 + k6 + k7 + k8) = False := eq_false (by omega)
@[go_sem] theorem qeB8 {b n k1 k2 k3 k4 k5 k6 k7 k8 : Nat} (h : b < n) : (n + k1 + k2 + k3 + k4 + k5 + k6 + k7 + k8 = b) = False := eq_false (by omega)
@[go_sem] theorem ltA9 {n k1 k2 k3 k4 k5 k6 k7 k8 k9 : Nat} : (n < n + 1 + k1 + k2 + k3 + k4 + k5 + k6 + k7 + k8 + k9) = True := eq_true (by omega)
@[go_sem] theorem eqA9 {n k1 k2 k3 k4 k5 k6 k7 k8 k9 : Nat} : (n = n + 1 + k1 + k2 + k3 + k4 + k5 + k6 + k7 + k8 + k9) = False := eq_false (by omega)
@[go_sem] theorem qeA9 {n k1 k2 k3 k4 k5 k6 k7 k8 k9 : Nat} : (n + 1 + k1 + k2 + k3 + k4 + k5 + k6 + k7 + k8 + k9 = n) = False := eq_false (by omega)
@[go_sem] theorem ltB9 {b n k1 k2 k3 k4 k5 k6 k7 k8 k9 : Nat} (h : b < n) : (b < n + k1 + k2 + k3 + k4 + k5 + k6 + k7 + k8 + k9) = True := eq_true (by omega)
@[go_sem] theorem eqB9 {b n k1 k2 k3 k4 k5 k6 k7 k8 k9 : Nat} (h : b < n) : (b = n + k1 + k2 + k3 + k4 + k5 + k6 + k7 + k8 + k9) = False := eq_false (by omega)
@[go_sem] theorem qeB9 {b n k1 k2 k3 k4 k5 k6 k7 k8 k9 : Nat} (h : b < n) : (n + k1 + k2 + k3 + k4 + k5 + k6 + k7 + k8 + k9 = b) = False := eq_false (by omega)
@[go_sem] theorem ltA10 {n k1 k2 k3 k4 k5 k6 k7 k8 k9 k10 : Nat} : (n < n + 1 + k1 + k2 + k3 + k4 + k5 + k6 + k7 + k8 + k9 + k10) = True := eq_true (by omega)
@[go_sem] theorem eqA10 {n k1 k2 k3 k4 k5 k6 k7 k8 k9 k10 : Nat} : (n = n + 1 + k1 + k2 + k3 + k4 + k5 + k6 + k7 + k8 + k9 + k10) = False := eq_false (by omega)
@[go_sem] theorem qeA10 {n k1 k2 k3 k4 k5 k6 k7 k8 k9 k10 : Nat} : (n + 1 + k1 + k2 + k3 + k4 + k5 + k6 + k7 + k8 + k9 + k10 = n) = False := eq_false (by omega)
@[go_sem] theorem ltB10 {b n k1 k2 k3 k4 k5 k6 k7 k8 k9 k10 : Nat} (h : b < n) : (b < n + k1 + k2 + k3 + k4 + k5 + k6 + k7 + k8 + k9 + k10) = True := eq_true (by omega)
@[go_sem] theorem eqB10 {b n k1 k2 k3 k4 k5 k6 k7 k8 k9 k10 : Nat} (h : b < n) : (b = n + k1 + k2 + k3 + k4 + k5 + k6 + k7 + k8 + k9 + k10) = False := eq_false (by omega)
@[go_sem] theorem qeB10 {b n k1 k2 k3 k4 k5 k6 k7 k8 k9 k10 : Nat} (h : b < n) : (n + k1 + k2 + k3 + k4 + k5 + k6 + k7 + k8 + k9 + k10 = b) = False := eq_false (by omega)
@[go_sem] theorem ltA11 {n k1 k2 k3 k4 k5 k6 k7 k8 k9 k10 k11 : Nat} : (n < n + 1 + k1 + k2 + k3 + k4 + k5 + k6 + k7 + k8 + k9 + k10 + k11) = True := eq_true (by omega)
@[go_sem] theorem eqA11 {n k1 k2 k3 k4 k5 k6 k7 k8 k9 k10 k11 : Nat} : (n = n + 1 + k1 + k2 + k3 + k4 + k5 + k6 + k7 + k8 + k9 + k10 + k11) = False := eq_false (by omega)
@[go_sem] theorem qeA11 {n k1 k2 k3 k4 k5 k6 k7 k8 k9 k10 k11 : Nat} : (n + 1 + k1 + k2 + k3 + k4 + k5 + k6 + k7 + k8 + k9 + k10 + k11 = n) = False := eq_false (by omega)
@[go_sem] theorem ltB11 {b n k1 k2 k3 k4 k5 k6 k7 k8 k9 k10 k11 : Nat} (h : b < n) : (b < n + k1 + k2 + k3 + k4 + k5 + k6 + k7 + k8 + k9 + k10 + k11) = True := eq_true (by omega)
@[go_sem] theorem eqB11 {b n k1 k2 k3 k4 k5 k6 k7 k8 k9 k10 k11 : Nat} (h : b < n) : (b = n + k1 + k2 + k3 + k4 + k5 + k6 + k7 + k8 + k9 + k10 + k11) = False := eq_false (by omega)
@[go_sem] theorem qeB11 {b n k1 k2 k3 k4 k5 k6 k7 k8 k9 k10 k11 : Nat} (h : b < n) : (n + k1 + k2 + k3 + k4 + k5 + k6 + k7 + k8 + k9 + k10 + k11 = b) = False := eq_false (by omega)
@[go_sem] theorem ltA12 {n k1 k2 k3 k4 k5 k6 k7 k8 k9 k10 k11 k12 : Nat} : (n < n + 1 + k1 + k2 + k3 + k4 + k5 + k6 + k7 + k8 + k9 + k10 + k11 + k12) = True := eq_true (by omega)
@[go_sem] theorem eqA12 {n k1 k2 k3 k4 k5 k6 k7 k8 k9 k10 k11 k12 : Nat} : (n = n + 1 + k1 + k2 + k3 + k4 + k5 + k6 + k7 + k8 + k9 + k10 + k11 + k12) = False := eq_false (by omega)
@[go_sem] theorem qeA12 {n k1 k2 k3 k4 k5 k6 k7 k8 k9 k10 k11 k12 : Nat} : (n + 1 + k1 + k2 + k3 + k4 + k5 + k6 + k7 + k8 + k9 + k10 + k11 + k12 = n) = False := eq_false (by omega)
@[go_sem] theorem ltB12 {b n k1 k2 k3 k4 k5 k6 k7 k8 k9 k10 k11 k12 : Nat} (h : b < n) : (b < n + k1 + k2 + k3 + k4 + k5 + k6 + k7 + k8 + k9 + k10 + k11 + k12) = True := eq_true (by omega)
@[go_sem] theorem eqB12 {b n k1 k2 k3 k4 k5 k6 k7 k8 k9 k10 k11 k12 : Nat} (h : b < n) : (b = n + k1 + k2 + k3 + k4 + k5 + k6 + k7 + k8 + k9 + k10 + k11 + k12) = False := eq_false (by omega)
@[go_sem] theorem qeB12 {b n k1 k2 k3 k4 k5 k6 k7 k8 k9 k10 k11 k12 : Nat} (h : b < n) : (n + k1 + k2 + k3 + k4 + k5 + k6 + k7 + k8 + k9 + k10 + k11 + k12 = b) = False := eq_false (by omega)

/-- What a world has grown by: new blocks, and the count of draws. -/
structure Gr where
  os : List Obj
  n : Nat
instance : Nonempty Gr := ⟨⟨[], 0⟩⟩

/-- A world with blocks behind it, and its draws at n. -/
def ext (w : World) (g : Gr) : World := { w with heap := w.heap ++ g.os.toArray, drawn := g.n }

/-- A world that has grown: new blocks alone, and draws. -/
def Ext (w w' : World) : Prop := ∃ g, w' = ext w g

@[go_sem, simp] theorem size_ext (w : World) (g : Gr) : (ext w g).heap.size = w.heap.size + g.os.length := by simp [ext]
theorem heap_ext (w : World) (g : Gr) (k : Nat) (h : k < w.heap.size) : (ext w g).heap[k]? = w.heap[k]? := by
  simp [ext, Array.getElem?_append, h]
@[go_sem, simp] theorem cell?_ext (w : World) (g : Gr) (b o : Nat) (h : b < w.heap.size) : (ext w g).cell? ⟨b, o, none⟩ = w.cell? ⟨b, o, none⟩ := by
  unfold World.cell?; rw [heap_ext w g b h]
@[go_sem, simp] theorem frozen?_ext (w : World) (g : Gr) (b o : Nat) (h : b < w.heap.size) : (ext w g).frozen? ⟨b, o, none⟩ = w.frozen? ⟨b, o, none⟩ := by
  unfold World.frozen?; rw [heap_ext w g b h]
theorem ext_ext (w : World) (g g' : Gr) : ext (ext w g) g' = ext w ⟨g.os ++ g'.os, g'.n⟩ := by simp [ext]
@[go_sem, simp] theorem drewN_ext (w : World) (g : Gr) (m : Nat) : (ext w g).drewN m = ext w ⟨g.os, g.n + m⟩ := rfl
@[go_sem, simp] theorem drew_ext (w : World) (g : Gr) : (ext w g).drew = ext w ⟨g.os, g.n + 1⟩ := rfl
@[go_sem, simp] theorem ext_drewN (w : World) (g : Gr) (m : Nat) : ext (w.drewN m) g = ext w g := rfl
@[go_sem, simp] theorem ext_drew (w : World) (g : Gr) : ext w.drew g = ext w g := rfl
/-- A store to what was there goes ahead of the growth. -/
@[go_sem, simp] theorem setCell_ext (w : World) (g : Gr) (b o : Nat) (v : Value) (h : b < w.heap.size) : (ext w g).setCell ⟨b, o, none⟩ v = ext (w.setCell ⟨b, o, none⟩ v) g := by
  unfold ext World.setCell
  congr 1
  apply Array.ext_getElem?
  intro i
  simp only [Array.getElem?_modify, Array.getElem?_append, Array.size_modify]
  by_cases hi : b = i
  · subst hi; simp [h]
  · simp [hi]

theorem Ext.refl (w : World) : Ext w w := ⟨⟨[], w.drawn⟩, by simp [ext]⟩
theorem Ext.of_below {w w' : World} (h : Below w.heap.size w w') : Ext w w' := by
  obtain ⟨h1, h2, h3, h4, h5⟩ := h
  refine ⟨⟨(w'.heap.extract w.heap.size w'.heap.size).toList, w'.drawn⟩, ?_⟩
  obtain ⟨heap', tape', drawn', os', output'⟩ := w'
  simp only at h1 h2 h3 h4 h5
  subst h1; subst h2; subst h3
  unfold ext
  congr 1
  apply Array.ext_getElem?
  intro i
  by_cases hi : i < w.heap.size
  · rw [h5 i hi]; simp [Array.getElem?_append, hi]
  · simp only [Array.getElem?_append, hi, if_false, Array.toArray_toList]
    rw [Array.getElem?_extract]
    simp only [Nat.min_self]
    split
    · congr 1; omega
    · rw [Array.getElem?_eq_none (by omega)]
theorem Ext.below {w w' : World} (h : Ext w w') : Below w.heap.size w w' := by
  obtain ⟨g, rfl⟩ := h
  exact ⟨rfl, rfl, rfl, by simp, fun k hk => heap_ext w g k hk⟩
theorem Ext.trans {a b c : World} (h : Ext a b) (k : Ext b c) : Ext a c := by
  obtain ⟨g, rfl⟩ := h
  obtain ⟨g', rfl⟩ := k
  exact ⟨_, ext_ext ..⟩
theorem below_ext {B : Nat} {a w : World} (h : Below B a w) (hB : B ≤ w.heap.size) (g : Gr) : Below B a (ext w g) :=
  h.trans ((Ext.below ⟨g, rfl⟩).mono hB)
theorem below_drewN' {B : Nat} {a w : World} (h : Below B a w) (n : Nat) : Below B a (w.drewN n) := h.trans ⟨rfl, rfl, rfl, Nat.le_refl _, fun _ _ => rfl⟩

/-- The rules at the class 'w, grown'. -/
theorem wp_grow_tail {id : Nat} {Q : Exit → Act → World → Prop} {a : Act} {w : World} {l : List Oper} (n : Nat) (hm : P.follows .mixedOrders = true) (hB : Region.lexTailB .any l.toArray n = true)
    (h : wpQuiet P l.toArray (fun w' => ∃ g, w' = ext w g) (fun a' => ∀ w', (∃ g, w' = ext w g) → wpList P l.toArray Q (l.drop n) a' w') (l.take n) a) : (Code.region id l.toArray true).wp P Q a w :=
  wp_quiet_tail_in (C := fun w' => ∃ g, w' = ext w g) n hm hB ⟨⟨[], w.drawn + 1⟩, by simp [ext]⟩ h
theorem wp_grow {id : Nat} {Q : Exit → Act → World → Prop} {a : Act} {w : World} {l : List Oper} (hm : P.follows .mixedOrders = true) (hB : Region.lexB .any l.toArray = true)
    (h : wpQuiet P l.toArray (fun w' => ∃ g, w' = ext w g) (fun a' => ∀ w', (∃ g, w' = ext w g) → Q .normal a' w') l a) : (Code.region id l.toArray true).wp P Q a w :=
  wp_region_quiet (C := fun w' => ∃ g, w' = ext w g) hm hB ⟨⟨[], w.drawn + 1⟩, by simp [ext]⟩ (by simpa using h)
/-- A callee that only grows the world, met in a world that has grown. -/
theorem calls_grow {f : FuncId} {args : Array Value} {w : World} {g : Gr} {v : Value} (h : Calls P f args (ext w g) fun e w' => e = .returned v ∧ Ext (ext w g) w') :
    Calls P f args (ext w g) fun e w' => e = .returned v ∧ ∃ g', w' = ext w g' :=
  h.mono fun _ _ ⟨he, _, hw⟩ => ⟨he, _, hw.trans (ext_ext _ _ _)⟩

/-! Whole blocks: what they hold, and how they are set. -/
theorem heap_at (w : World) (o : Obj) (n : Nat) (hn : n = w.heap.size) : (w.alloc o).heap[n]? = some o := by subst hn; exact heap_alloc_last w o
theorem heap_past (w : World) (o : Obj) (n : Nat) (hn : n < w.heap.size) : (w.alloc o).heap[n]? = w.heap[n]? := by
  show (w.heap.push o)[n]? = _
  rw [Array.getElem?_push, if_neg (by omega)]
theorem heap_drewN' (w : World) (n k : Nat) : (w.drewN n).heap[k]? = w.heap[k]? := rfl
theorem setRow_drewN (w : World) (n g : Nat) (c : Array Value) : (w.drewN n).setRow g c = (w.setRow g c).drewN n := rfl
theorem setRow_drew (w : World) (g : Nat) (c : Array Value) : w.drew.setRow g c = (w.setRow g c).drew := rfl
theorem setRow_alloc_at (w : World) (c c' : Array Value) (t : TypeId) (n : Nat) (hn : n = w.heap.size) : (w.alloc (.cells c t)).setRow n c' = w.alloc (.cells c' t) := by
  subst hn; exact World.setRow_alloc_new w c c' t
theorem setRow_alloc_past (w : World) (c : Array Value) (o : Obj) (n : Nat) (hn : n < w.heap.size) : (w.alloc o).setRow n c = (w.setRow n c).alloc o := by
  simp only [World.setRow, World.alloc]
  congr 1
  apply Array.ext_getElem?
  intro i
  simp only [Array.getElem?_modify, Array.getElem?_push, Array.size_modify]
  by_cases h : n = i
  · subst h
    rw [if_pos rfl, if_neg (by omega), if_neg (by omega), if_pos rfl]
  · rw [if_neg h]
    by_cases h2 : i = w.heap.size
    · rw [if_pos h2, if_pos h2]
    · rw [if_neg h2, if_neg h2, if_neg h]
theorem setRow_ext (w : World) (g : Gr) (c : Array Value) (n : Nat) (hn : n < w.heap.size) : (ext w g).setRow n c = ext (w.setRow n c) g := by
  simp only [World.setRow, ext]
  congr 1
  apply Array.ext_getElem?
  intro i
  simp only [Array.getElem?_modify, Array.getElem?_append, Array.size_modify]
  by_cases h : n = i
  · subst h; simp [hn]
  · simp [h]
theorem size_alloc (w : World) (o : Obj) : (w.alloc o).heap.size = w.heap.size + 1 := by show (w.heap.push o).size = _; simp
theorem size_drewN' (w : World) (n : Nat) : (w.drewN n).heap.size = w.heap.size := rfl
/-- The walk's lists of rules, each as one. -/
theorem hsA : (∀ (w : World) (o : Obj) (n : Nat), n = w.heap.size → (w.alloc o).heap[n]? = some o) ∧ (∀ (w : World) (o : Obj) (n : Nat), n < w.heap.size → (w.alloc o).heap[n]? = w.heap[n]?) ∧ (∀ (w : World) (g : Gr) (k : Nat), k < w.heap.size → (ext w g).heap[k]? = w.heap[k]?) ∧ (∀ (w : World) (n k : Nat), (w.drewN n).heap[k]? = w.heap[k]?) ∧ (∀ (w : World) (g : Nat) (c : Array Value), (w.setRow g c).heap.size = w.heap.size) ∧ (∀ (w : World) (o : Obj), (w.alloc o).heap.size = w.heap.size + 1) ∧ (∀ (w : World) (n : Nat), (w.drewN n).heap.size = w.heap.size) ∧ (∀ (w : World) (g : Gr), (ext w g).heap.size = w.heap.size + g.os.length) ∧ (∀ (n : Nat), (n < n + 1) = True) ∧ (∀ (n k1 : Nat), (n < n + 1 + k1) = True) ∧ (∀ (n k1 k2 : Nat), (n < n + 1 + k1 + k2) = True) ∧ (∀ (n k1 k2 k3 : Nat), (n < n + 1 + k1 + k2 + k3) = True) ∧ (∀ (n k1 k2 k3 k4 : Nat), (n < n + 1 + k1 + k2 + k3 + k4) = True) ∧ (∀ (n k1 k2 k3 k4 k5 : Nat), (n < n + 1 + k1 + k2 + k3 + k4 + k5) = True) ∧ (∀ (n k1 k2 k3 k4 k5 k6 : Nat), (n < n + 1 + k1 + k2 + k3 + k4 + k5 + k6) = True) ∧ (∀ (n k1 k2 k3 k4 k5 k6 k7 : Nat), (n < n + 1 + k1 + k2 + k3 + k4 + k5 + k6 + k7) = True) :=
  ⟨heap_at, heap_past, heap_ext, heap_drewN', setRow_size, size_alloc, size_drewN', size_ext, fun _ => ltA0, fun _ _ => ltA1, fun _ _ _ => ltA2, fun _ _ _ _ => ltA3, fun _ _ _ _ _ => ltA4, fun _ _ _ _ _ _ => ltA5, fun _ _ _ _ _ _ _ => ltA6, fun _ _ _ _ _ _ _ _ => ltA7⟩
theorem nmA : (∀ (w : World) (g : Nat) (c : Array Value), (w.setRow g c).heap.size = w.heap.size) ∧ (∀ (w : World) (n g : Nat) (c : Array Value), (w.drewN n).setRow g c = (w.setRow g c).drewN n) ∧ (∀ (w : World) (g : Nat) (c : Array Value), w.drew.setRow g c = (w.setRow g c).drew) ∧ (∀ (w : World) (c c' : Array Value) (t : TypeId) (n : Nat), n = w.heap.size → (w.alloc (.cells c t)).setRow n c' = w.alloc (.cells c' t)) ∧ (∀ (w : World) (c : Array Value) (o : Obj) (n : Nat), n < w.heap.size → (w.alloc o).setRow n c = (w.setRow n c).alloc o) ∧ (∀ (w : World) (g : Gr) (c : Array Value) (n : Nat), n < w.heap.size → (ext w g).setRow n c = ext (w.setRow n c) g) ∧ (∀ (w : World) (o : Obj), (w.alloc o).heap.size = w.heap.size + 1) ∧ (∀ (w : World) (n : Nat), (w.drewN n).heap.size = w.heap.size) ∧ (∀ (w : World) (g : Gr), (ext w g).heap.size = w.heap.size + g.os.length) ∧ (∀ (n : Nat), (n < n + 1) = True) ∧ (∀ (n k1 : Nat), (n < n + 1 + k1) = True) ∧ (∀ (n k1 k2 : Nat), (n < n + 1 + k1 + k2) = True) ∧ (∀ (n k1 k2 k3 : Nat), (n < n + 1 + k1 + k2 + k3) = True) ∧ (∀ (n k1 k2 k3 k4 : Nat), (n < n + 1 + k1 + k2 + k3 + k4) = True) ∧ (∀ (n k1 k2 k3 k4 k5 : Nat), (n < n + 1 + k1 + k2 + k3 + k4 + k5) = True) ∧ (∀ (n k1 k2 k3 k4 k5 k6 : Nat), (n < n + 1 + k1 + k2 + k3 + k4 + k5 + k6) = True) ∧ (∀ (n k1 k2 k3 k4 k5 k6 k7 : Nat), (n < n + 1 + k1 + k2 + k3 + k4 + k5 + k6 + k7) = True) :=
  ⟨setRow_size, setRow_drewN, setRow_drew, setRow_alloc_at, setRow_alloc_past, setRow_ext, size_alloc, size_drewN', size_ext, fun _ => ltA0, fun _ _ => ltA1, fun _ _ _ => ltA2, fun _ _ _ _ => ltA3, fun _ _ _ _ _ => ltA4, fun _ _ _ _ _ _ => ltA5, fun _ _ _ _ _ _ _ => ltA6, fun _ _ _ _ _ _ _ _ => ltA7⟩
end Go.Proofs.Ytgdjmgcolipcnaa
/-
  What is proved here: words with a carry and a borrow, plain; what it is for a world to be turned in one block alone. No program in sight.
  Conditions: none.
-/
namespace Go.Proofs.Ytgdjmgcolipcnaa
open Go.RowKit
set_option linter.unusedSimpArgs false
set_option linter.unusedVariables false

/-! The difference of two words and a borrow, the borrow behind it; the sum of two words and a carry, the carry behind it. -/
def sbd (x y b : Int) : Int := (((x.toNat + 18446744073709551616 - y.toNat - b.toNat) % 18446744073709551616 : Nat) : Int)
def sbc (x y b : Int) : Int := ((if x.toNat < y.toNat + b.toNat then 1 else 0 : Nat) : Int)
def add (x y b : Int) : Int := (((x.toNat + y.toNat + b.toNat) % 18446744073709551616 : Nat) : Int)
def adc (x y b : Int) : Int := (((x.toNat + y.toNat + b.toNat) / 18446744073709551616 : Nat) : Int)

theorem sbc_bit (x y b : Int) : sbc x y b = 0 ∨ sbc x y b = 1 := by unfold sbc; split <;> simp
theorem sb_spec (x y b : Int) (hx : 0 ≤ x ∧ x < 18446744073709551616) (hy : 0 ≤ y ∧ y < 18446744073709551616) (hb : b = 0 ∨ b = 1) :
    sbd x y b - 18446744073709551616 * sbc x y b = x - y - b ∧ (0 ≤ sbd x y b ∧ sbd x y b < 18446744073709551616) ∧ (sbc x y b = 0 ∨ sbc x y b = 1) := by
  unfold sbd sbc
  refine ⟨?_, by omega, by split <;> simp⟩
  split <;> omega

theorem cell_far {b c : Nat} (h : ¬ b = c) (w : World) (o o' : Nat) (v : Value) : (w.setCell ⟨b, o, none⟩ v).cell? ⟨c, o', none⟩ = w.cell? ⟨c, o', none⟩ :=
  World.cell?_setCell_far w _ _ v h
theorem cell_dn (w : World) (n : Nat) (a : Addr) : (w.drewN n).cell? a = w.cell? a := rfl

theorem quiet_after {P : Program} {f : FuncId} {args : Array Value} {w : World} {n0 n : Nat} {v : Value}
    (h : Calls P f args (w.drewN (n0 + n)) fun e w' => e = .returned v ∧ ∃ m, w' = (w.drewN (n0 + n)).drewN m) : Calls P f args (w.drewN (n0 + n)) fun e w'' => e = .returned v ∧ ∃ k, w'' = w.drewN (n0 + k) :=
  h.mono fun _ _ ⟨he, m, hm⟩ => ⟨he, n + m, by rw [hm, World.drewN_drewN, Nat.add_assoc]⟩

theorem cell_set_none (w : World) (a : Addr) (v : Value) (h : w.cell? a = none) : (w.setCell a v).cell? a = none := by
  unfold World.cell? at h
  simp only [World.setCell, World.cell?, Array.getElem?_modify, ↓reduceIte]
  cases hh : w.heap[a.block]? with
  | none => simp
  | some x =>
    rw [hh] at h
    cases x <;> simp_all
theorem cell_set_isSome (w : World) (a b : Addr) (v : Value) : ((w.setCell a v).cell? b).isSome = (w.cell? b).isSome := by
  by_cases h : a = b
  · subst h
    cases hc : w.cell? a with
    | some u => rw [World.cell?_setCell_same w a v hc]; rfl
    | none => rw [cell_set_none w a v hc]
  · rw [World.cell?_setCell_other w a b v h]
theorem cell_set (w : World) (b o o' : Nat) (v : Value) (h : (w.cell? ⟨b, o, none⟩).isSome = true) : (w.setCell ⟨b, o, none⟩ v).cell? ⟨b, o', none⟩ = if o = o' then some v else w.cell? ⟨b, o', none⟩ := by
  by_cases e : o = o'
  · subst e
    obtain ⟨u, hu⟩ := Option.isSome_iff_exists.1 h
    rw [World.cell?_setCell_same w _ v hu, if_pos rfl]
  · rw [if_neg e, World.cell?_setCell_other]
    simp [e]

/-- The world is turned in block b alone; blocks may have come. -/
def Away (b : Nat) (w w' : World) : Prop := w'.tape = w.tape ∧ w'.os = w.os ∧ w'.output = w.output ∧ w.heap.size ≤ w'.heap.size ∧ ∀ k, k < w.heap.size → k ≠ b → w'.heap[k]? = w.heap[k]?
theorem Away.refl (b : Nat) (w : World) : Away b w w := ⟨rfl, rfl, rfl, Nat.le_refl _, fun _ _ _ => rfl⟩
theorem Away.trans {b : Nat} {u v w : World} (h : Away b u v) (k : Away b v w) : Away b u w :=
  ⟨k.1.trans h.1, k.2.1.trans h.2.1, k.2.2.1.trans h.2.2.1, Nat.le_trans h.2.2.2.1 k.2.2.2.1, fun i hi hb => (k.2.2.2.2 i (Nat.lt_of_lt_of_le hi h.2.2.2.1) hb).trans (h.2.2.2.2 i hi hb)⟩
theorem Away.drewN {b : Nat} {u w : World} (h : Away b u w) (n : Nat) : Away b u (w.drewN n) := h
theorem Away.drew {b : Nat} {u w : World} (h : Away b u w) : Away b u w.drew := h
theorem Away.setCell {b : Nat} {u w : World} (h : Away b u w) (o : Nat) (v : Value) : Away b u (w.setCell ⟨b, o, none⟩ v) :=
  ⟨h.1, h.2.1, h.2.2.1, by simpa [World.setCell] using h.2.2.2.1, fun i hi hb => by
    rw [← h.2.2.2.2 i hi hb]
    simp [World.setCell, Array.getElem?_modify, Ne.symm hb]⟩
theorem Away.ext {b : Nat} {u w : World} (h : Away b u w) (g : Gr) : Away b u (ext w g) :=
  ⟨h.1, h.2.1, h.2.2.1, by rw [size_ext]; have := h.2.2.2.1; omega, fun i hi hb => by
    rw [heap_ext w g i (Nat.lt_of_lt_of_le hi h.2.2.2.1)]; exact h.2.2.2.2 i hi hb⟩
theorem Away.of_below {b B : Nat} {u v : World} (h : Below B u v) (hB : u.heap.size ≤ B) : Away b u v :=
  ⟨h.tape, h.os, h.output, h.size, fun i hi _ => h.block i (Nat.lt_of_lt_of_le hi hB)⟩
theorem Away.below {b B : Nat} {u v : World} (h : Away b u v) (hB : B ≤ b) (hs : B ≤ u.heap.size) : Below B u v :=
  ⟨h.2.1, h.1, h.2.2.1, h.2.2.2.1, fun i hi => h.2.2.2.2 i (by omega) (by omega)⟩
theorem Away.cell {b : Nat} {u v : World} (h : Away b u v) {c : Nat} (hc : c < u.heap.size) (hb : c ≠ b) (o : Nat) : v.cell? ⟨c, o, none⟩ = u.cell? ⟨c, o, none⟩ := by
  unfold World.cell?; rw [h.2.2.2.2 c hc hb]
theorem Away.frozen {b : Nat} {u v : World} (h : Away b u v) {c : Nat} (hc : c < u.heap.size) (hb : c ≠ b) (o : Nat) : v.frozen? ⟨c, o, none⟩ = u.frozen? ⟨c, o, none⟩ := by
  unfold World.frozen?; rw [h.2.2.2.2 c hc hb]
theorem below_trans_at {B : Nat} {u v w : World} (h : Below B u v) (k : Below B v w) : Below B u w := h.trans k
theorem cell_al1 {w : World} {c : Nat} (h : c < w.heap.size) (o : Obj) (i : Nat) : (w.alloc o).cell? ⟨c, i, none⟩ = w.cell? ⟨c, i, none⟩ := by rw [World.cell?_alloc_lt]; exact h
theorem size_al {w : World} {c : Nat} (h : c < w.heap.size) (o : Obj) : c < (w.alloc o).heap.size := by simp; omega
theorem cell_al2 {w : World} {c : Nat} (h : c < w.heap.size) (o o' : Obj) (i : Nat) : ((w.alloc o).alloc o').cell? ⟨c, i, none⟩ = w.cell? ⟨c, i, none⟩ := (cell_al1 (size_al h o) o' i).trans (cell_al1 h o i)
theorem quiet_load_row {P : Program} {o : Oper} {a : Act} {C : World → Prop} {K : Act → Prop} (ty : TypeId) (x : Operand) (ho : o.op = .load ty x)
    (g : Nat) (hx : a.eval x = .pointer (some ⟨g, 0, none⟩)) (t : TypeId) (cs : Array Value) (fr : Nat × Nat) (d : TypeDesc) (hg : ∀ w, C w → w.heap[g]? = some (.cells cs t fr))
    (hu : P.underlying ty = some d) (hd : (match d with | .struct _ | .array _ _ => true | _ => false) = true) (hi : (P.info? ty).map (·.size) = some cs.size)
    (h : K (a.put o.dst (.agg cs))) : o.quiet P a C K :=
  ⟨.agg cs, fun w hw => by
    unfold Oper.quietAt execOp
    simp only [ho, hx, Instr.loadAt, Instr.sureAddr, Sem.run_bind, Sem.run_pure, Result.andThen_ok, run_loadVar_row w g t ty cs fr d (hg w hw) hu hd hi]
    exact ⟨rfl, rfl⟩, h⟩
end Go.Proofs.Ytgdjmgcolipcnaa
