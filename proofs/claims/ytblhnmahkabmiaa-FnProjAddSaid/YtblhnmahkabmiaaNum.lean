/-
  What is proved here: plain laws of numbers by their digits (words of 32 bits). No program in sight.
  Conditions: none.
-/
import Derived.WalkKit
import Derived.Laws.BitsAllLaws
namespace Go.Proofs.Ytblhnmahkabmiaa
open Go.RowKit

/-- The k lowest digits of a number, to the base 2^32, the lowest first. -/
def digs : Nat → Int → List Int
  | 0, _ => []
  | k + 1, S => (S % 4294967296) :: digs k (S / 4294967296)

/-- A number by its digits, each whatever it may be. -/
def val : List Int → Int
  | [] => 0
  | a :: l => a + 4294967296 * val l

/-- What is carried out of k digits. -/
def cy : Nat → Int → Int
  | 0, S => S
  | k + 1, S => cy k (S / 4294967296)

/-- An element of eight words. -/
def E8 (S : Int) : Value := .agg ((digs 8 S).map (Value.int .i64)).toArray

/-- The digits as the code carries them on. -/
def chn : Int → List Int → List Int
  | _, [] => []
  | c, a :: l => ((c + a) % 4294967296) :: chn ((c + a) / 4294967296) l
def chc : Int → List Int → Int
  | c, [] => c
  | c, a :: l => chc ((c + a) / 4294967296) l

theorem digs_length : ∀ k S, (digs k S).length = k
  | 0, _ => rfl
  | k + 1, S => by simp [digs, digs_length k]

theorem digs_bd : ∀ k S, ∀ x ∈ digs k S, 0 ≤ x ∧ x < 4294967296
  | 0, _, x, h => by simp [digs] at h
  | k + 1, S, x, h => by
    simp only [digs, List.mem_cons] at h
    rcases h with rfl | h
    · omega
    · exact digs_bd k _ x h

theorem chn_digs : ∀ (l : List Int) (c : Int), chn c l = digs l.length (c + val l)
  | [], _ => rfl
  | a :: l, c => by
    have h := chn_digs l ((c + a) / 4294967296)
    simp only [chn, val, List.length_cons, digs]
    rw [h]
    congr 1
    · omega
    · congr 1; omega

theorem chc_cy : ∀ (l : List Int) (c : Int), chc c l = cy l.length (c + val l)
  | [], c => by simp [chc, cy, val]
  | a :: l, c => by
    have h := chc_cy l ((c + a) / 4294967296)
    simp only [chc, val, List.length_cons, cy]
    rw [h]
    congr 1; omega

theorem val_digs : ∀ k S, val (digs k S) = S - 4294967296 ^ k * cy k S
  | 0, S => by simp [digs, val, cy]
  | k + 1, S => by
    have h := val_digs k (S / 4294967296)
    simp only [digs, val, cy]
    rw [h, Int.mul_sub, Int.pow_succ, Int.mul_comm (4294967296 ^ k) 4294967296, Int.mul_assoc]
    have := Int.emod_add_mul_ediv S 4294967296
    omega

theorem digs_val : ∀ l : List Int, (∀ x ∈ l, 0 ≤ x ∧ x < 4294967296) → digs l.length (val l) = l
  | [], _ => rfl
  | a :: l, h => by
    have ha := h a (by simp)
    have ih := digs_val l (fun x hx => h x (by simp [hx]))
    simp only [List.length_cons, digs, val]
    have e1 : (a + 4294967296 * val l) % 4294967296 = a := by omega
    have e2 : (a + 4294967296 * val l) / 4294967296 = val l := by omega
    rw [e1, e2, ih]

theorem val_bd : ∀ l : List Int, (∀ x ∈ l, 0 ≤ x ∧ x < 4294967296) → 0 ≤ val l ∧ val l < 4294967296 ^ l.length
  | [], _ => by simp [val]
  | a :: l, h => by
    have ha := h a (by simp)
    have ih := val_bd l (fun x hx => h x (by simp [hx]))
    simp only [List.length_cons, val, Int.pow_succ]
    omega

theorem cy_zero : ∀ k S, 0 ≤ S → S < 4294967296 ^ k → cy k S = 0
  | 0, S, h0, h1 => by simp [cy] at *; omega
  | k + 1, S, h0, h1 => by
    rw [Int.pow_succ] at h1
    exact cy_zero k _ (by omega) (by omega)

theorem cy_eq : ∀ k S, cy k S = S / 4294967296 ^ k
  | 0, S => by simp [cy]
  | k + 1, S => by
    rw [cy, cy_eq k, Int.pow_succ, Int.mul_comm, Int.ediv_ediv_of_nonneg (by decide)]

/-- 2^256, and the order of the group. -/
def R256 : Int := 115792089237316195423570985008687907853269984665640564039457584007913129639936
def ordN : Int := 115792089210356248762697446949407573529996955224135760342422259061068512044369

theorem pow8 : (4294967296 : Int) ^ 8 = R256 := by decide +kernel

theorem E8_val (l : List Int) (hl : l.length = 8) (h : ∀ x ∈ l, 0 ≤ x ∧ x < 4294967296) : Value.agg (l.map (Value.int .i64)).toArray = E8 (val l) := by
  unfold E8; rw [← hl, digs_val l h]


/-! The same to the base 2^64, and 2^8. -/
/-- The k lowest digits of a number, to the base 2^64, the lowest first. -/
def qds : Nat → Int → List Int
  | 0, _ => []
  | k + 1, S => (S % 18446744073709551616) :: qds k (S / 18446744073709551616)

/-- A number by its digits, each whatever it may be. -/
def qal : List Int → Int
  | [] => 0
  | a :: l => a + 18446744073709551616 * qal l

/-- What is carried out of k digits. -/
def qy : Nat → Int → Int
  | 0, S => S
  | k + 1, S => qy k (S / 18446744073709551616)

theorem qds_length : ∀ k S, (qds k S).length = k
  | 0, _ => rfl
  | k + 1, S => by simp [qds, qds_length k]

theorem qds_bd : ∀ k S, ∀ x ∈ qds k S, 0 ≤ x ∧ x < 18446744073709551616
  | 0, _, x, h => by simp [qds] at h
  | k + 1, S, x, h => by
    simp only [qds, List.mem_cons] at h
    rcases h with rfl | h
    · omega
    · exact qds_bd k _ x h

theorem qal_qds : ∀ k S, qal (qds k S) = S - 18446744073709551616 ^ k * qy k S
  | 0, S => by simp [qds, qal, qy]
  | k + 1, S => by
    have h := qal_qds k (S / 18446744073709551616)
    simp only [qds, qal, qy]
    rw [h, Int.mul_sub, Int.pow_succ, Int.mul_comm (18446744073709551616 ^ k) 18446744073709551616, Int.mul_assoc]
    have := Int.emod_add_mul_ediv S 18446744073709551616
    omega

theorem qds_qal : ∀ l : List Int, (∀ x ∈ l, 0 ≤ x ∧ x < 18446744073709551616) → qds l.length (qal l) = l
  | [], _ => rfl
  | a :: l, h => by
    have ha := h a (by simp)
    have ih := qds_qal l (fun x hx => h x (by simp [hx]))
    simp only [List.length_cons, qds, qal]
    have e1 : (a + 18446744073709551616 * qal l) % 18446744073709551616 = a := by omega
    have e2 : (a + 18446744073709551616 * qal l) / 18446744073709551616 = qal l := by omega
    rw [e1, e2, ih]

theorem qal_bd : ∀ l : List Int, (∀ x ∈ l, 0 ≤ x ∧ x < 18446744073709551616) → 0 ≤ qal l ∧ qal l < 18446744073709551616 ^ l.length
  | [], _ => by simp [qal]
  | a :: l, h => by
    have ha := h a (by simp)
    have ih := qal_bd l (fun x hx => h x (by simp [hx]))
    simp only [List.length_cons, qal, Int.pow_succ]
    omega

theorem qy_zero : ∀ k S, 0 ≤ S → S < 18446744073709551616 ^ k → qy k S = 0
  | 0, S, h0, h1 => by simp [qy] at *; omega
  | k + 1, S, h0, h1 => by
    rw [Int.pow_succ] at h1
    exact qy_zero k _ (by omega) (by omega)

/-- The k lowest digits of a number, to the base 2^8, the lowest first. -/
def bds : Nat → Int → List Int
  | 0, _ => []
  | k + 1, S => (S % 256) :: bds k (S / 256)

/-- A number by its digits, each whatever it may be. -/
def bal : List Int → Int
  | [] => 0
  | a :: l => a + 256 * bal l

/-- What is carried out of k digits. -/
def by8 : Nat → Int → Int
  | 0, S => S
  | k + 1, S => by8 k (S / 256)

theorem bds_length : ∀ k S, (bds k S).length = k
  | 0, _ => rfl
  | k + 1, S => by simp [bds, bds_length k]

theorem bds_bd : ∀ k S, ∀ x ∈ bds k S, 0 ≤ x ∧ x < 256
  | 0, _, x, h => by simp [bds] at h
  | k + 1, S, x, h => by
    simp only [bds, List.mem_cons] at h
    rcases h with rfl | h
    · omega
    · exact bds_bd k _ x h

theorem bal_bds : ∀ k S, bal (bds k S) = S - 256 ^ k * by8 k S
  | 0, S => by simp [bds, bal, by8]
  | k + 1, S => by
    have h := bal_bds k (S / 256)
    simp only [bds, bal, by8]
    rw [h, Int.mul_sub, Int.pow_succ, Int.mul_comm (256 ^ k) 256, Int.mul_assoc]
    have := Int.emod_add_mul_ediv S 256
    omega

theorem bds_bal : ∀ l : List Int, (∀ x ∈ l, 0 ≤ x ∧ x < 256) → bds l.length (bal l) = l
  | [], _ => rfl
  | a :: l, h => by
    have ha := h a (by simp)
    have ih := bds_bal l (fun x hx => h x (by simp [hx]))
    simp only [List.length_cons, bds, bal]
    have e1 : (a + 256 * bal l) % 256 = a := by omega
    have e2 : (a + 256 * bal l) / 256 = bal l := by omega
    rw [e1, e2, ih]

theorem bal_bd : ∀ l : List Int, (∀ x ∈ l, 0 ≤ x ∧ x < 256) → 0 ≤ bal l ∧ bal l < 256 ^ l.length
  | [], _ => by simp [bal]
  | a :: l, h => by
    have ha := h a (by simp)
    have ih := bal_bd l (fun x hx => h x (by simp [hx]))
    simp only [List.length_cons, bal, Int.pow_succ]
    omega

theorem by8_zero : ∀ k S, 0 ≤ S → S < 256 ^ k → by8 k S = 0
  | 0, S, h0, h1 => by simp [by8] at *; omega
  | k + 1, S, h0, h1 => by
    rw [Int.pow_succ] at h1
    exact by8_zero k _ (by omega) (by omega)


/-- Four words; thirty-two bytes, the highest first. -/
def L4 (S : Int) : Value := .agg ((qds 4 S).map (Value.int .u64)).toArray
def B32 (S : Int) : Value := .agg ((bds 32 S).reverse.map (Value.int .u8)).toArray

/-- The number of bytes, the highest first. -/
def be (l : List Int) : Int := bal l.reverse

theorem pow4 : (18446744073709551616 : Int) ^ 4 = R256 := by decide +kernel
theorem pow32 : (256 : Int) ^ 32 = R256 := by decide +kernel

theorem L4_val (l : List Int) (hl : l.length = 4) (h : ∀ x ∈ l, 0 ≤ x ∧ x < 18446744073709551616) : Value.agg (l.map (Value.int .u64)).toArray = L4 (qal l) := by
  unfold L4; rw [← hl, qds_qal l h]

theorem B32_val (l : List Int) (hl : l.length = 32) (h : ∀ x ∈ l, 0 ≤ x ∧ x < 256) : Value.agg (l.map (Value.int .u8)).toArray = B32 (be l) := by
  unfold B32 be
  have h1 := bds_bal l.reverse (fun x hx => h x (by simpa using hx))
  rw [List.length_reverse, hl] at h1
  rw [h1, List.reverse_reverse]

theorem qal_bd4 (l : List Int) (hl : l.length = 4) (h : ∀ x ∈ l, 0 ≤ x ∧ x < 18446744073709551616) : 0 ≤ qal l ∧ qal l < R256 := by
  have h1 := qal_bd l h
  rw [hl, pow4] at h1
  exact h1
theorem val_bd8 (l : List Int) (hl : l.length = 8) (h : ∀ x ∈ l, 0 ≤ x ∧ x < 4294967296) : 0 ≤ val l ∧ val l < R256 := by
  have h1 := val_bd l h
  rw [hl, pow8] at h1
  exact h1
theorem be_bd (l : List Int) (hl : l.length = 32) (h : ∀ x ∈ l, 0 ≤ x ∧ x < 256) : 0 ≤ be l ∧ be l < R256 := by
  have h1 := bal_bd l.reverse (fun x hx => h x (by simpa using hx))
  rw [List.length_reverse, hl, pow32] at h1
  exact h1
theorem val_E8 {S : Int} (h0 : 0 ≤ S) (h : S < R256) : val (digs 8 S) = S := by
  rw [val_digs, cy_zero 8 S h0 (by rw [pow8]; exact h)]; omega
theorem qal_L4 {S : Int} (h0 : 0 ≤ S) (h : S < R256) : qal (qds 4 S) = S := by
  rw [qal_qds, qy_zero 4 S h0 (by rw [pow4]; exact h)]; omega
theorem bal_B32 {S : Int} (h0 : 0 ≤ S) (h : S < R256) : bal (bds 32 S) = S := by
  rw [bal_bds, by8_zero 32 S h0 (by rw [pow32]; exact h)]; omega
theorem L4_inj {a b : Int} (ha0 : 0 ≤ a) (ha : a < R256) (hb0 : 0 ≤ b) (hb : b < R256) (h : qds 4 a = qds 4 b) : a = b := by
  rw [← qal_L4 ha0 ha, ← qal_L4 hb0 hb, h]

/-- Two numbers of digits alike are alike. -/
theorem digs_inj {a b : Int} (ha0 : 0 ≤ a) (ha : a < R256) (hb0 : 0 ≤ b) (hb : b < R256) (h : digs 8 a = digs 8 b) : a = b := by
  have h1 := val_digs 8 a
  have h2 := val_digs 8 b
  rw [cy_zero 8 a ha0 (by rw [pow8]; exact ha)] at h1
  rw [cy_zero 8 b hb0 (by rw [pow8]; exact hb)] at h2
  rw [h] at h1; omega

/-- The order of digits from the highest one, as the code compares them. -/
def lexlt : List Int → List Int → Bool
  | a :: l, b :: m => if l = m then decide (a < b) else lexlt l m
  | _, _ => false

theorem lexlt_val : ∀ (l m : List Int), l.length = m.length → (∀ x ∈ l, 0 ≤ x ∧ x < 4294967296) → (∀ x ∈ m, 0 ≤ x ∧ x < 4294967296) → lexlt l m = decide (val l < val m)
  | [], [], _, _, _ => by simp [lexlt, val]
  | [], _ :: _, h, _, _ => by simp at h
  | _ :: _, [], h, _, _ => by simp at h
  | a :: l, b :: m, h, hl, hm => by
    have ih := lexlt_val l m (by simpa using h) (fun x hx => hl x (by simp [hx])) (fun x hx => hm x (by simp [hx]))
    have ha := hl a (by simp)
    have hb := hm b (by simp)
    simp only [lexlt]
    split
    · rename_i e; subst e
      exact decide_eq_decide.2 (by simp only [val]; omega)
    · rename_i e
      have hne : val l ≠ val m := by
        intro hv
        apply e
        have h1 := digs_val l (fun x hx => hl x (by simp [hx]))
        have h2 := digs_val m (fun x hx => hm x (by simp [hx]))
        rw [← h1, ← h2, hv]
        congr 1
        simpa using h
      rw [ih]
      exact decide_eq_decide.2 (by simp only [val]; omega)

theorem E8_open (S : Int) : ∃ d0 d1 d2 d3 d4 d5 d6 d7 : Int, digs 8 S = [d0, d1, d2, d3, d4, d5, d6, d7] ∧ E8 S = .agg #[.int .i64 d0, .int .i64 d1, .int .i64 d2, .int .i64 d3, .int .i64 d4, .int .i64 d5, .int .i64 d6, .int .i64 d7] ∧ (0 ≤ d0 ∧ d0 < 4294967296) ∧ (0 ≤ d1 ∧ d1 < 4294967296) ∧ (0 ≤ d2 ∧ d2 < 4294967296) ∧ (0 ≤ d3 ∧ d3 < 4294967296) ∧ (0 ≤ d4 ∧ d4 < 4294967296) ∧ (0 ≤ d5 ∧ d5 < 4294967296) ∧ (0 ≤ d6 ∧ d6 < 4294967296) ∧ (0 ≤ d7 ∧ d7 < 4294967296) := by
  have h1 := digs_length 8 S
  have h2 := digs_bd 8 S
  unfold E8
  match digs 8 S, h1, h2 with
  | [d0, d1, d2, d3, d4, d5, d6, d7], _, h2 =>
    exact ⟨d0, d1, d2, d3, d4, d5, d6, d7, rfl, rfl, h2 d0 (by simp), h2 d1 (by simp), h2 d2 (by simp), h2 d3 (by simp), h2 d4 (by simp), h2 d5 (by simp), h2 d6 (by simp), h2 d7 (by simp)⟩

theorem L4_open (S : Int) : ∃ d0 d1 d2 d3 : Int, qds 4 S = [d0, d1, d2, d3] ∧ L4 S = .agg #[.int .u64 d0, .int .u64 d1, .int .u64 d2, .int .u64 d3] ∧ (0 ≤ d0 ∧ d0 < 18446744073709551616) ∧ (0 ≤ d1 ∧ d1 < 18446744073709551616) ∧ (0 ≤ d2 ∧ d2 < 18446744073709551616) ∧ (0 ≤ d3 ∧ d3 < 18446744073709551616) := by
  have h1 := qds_length 4 S
  have h2 := qds_bd 4 S
  unfold L4
  match qds 4 S, h1, h2 with
  | [d0, d1, d2, d3], _, h2 =>
    exact ⟨d0, d1, d2, d3, rfl, rfl, h2 d0 (by simp), h2 d1 (by simp), h2 d2 (by simp), h2 d3 (by simp)⟩

theorem B32_open (S : Int) : ∃ d0 d1 d2 d3 d4 d5 d6 d7 d8 d9 d10 d11 d12 d13 d14 d15 d16 d17 d18 d19 d20 d21 d22 d23 d24 d25 d26 d27 d28 d29 d30 d31 : Int, bds 32 S = [d0, d1, d2, d3, d4, d5, d6, d7, d8, d9, d10, d11, d12, d13, d14, d15, d16, d17, d18, d19, d20, d21, d22, d23, d24, d25, d26, d27, d28, d29, d30, d31] ∧ B32 S = .agg #[.int .u8 d31, .int .u8 d30, .int .u8 d29, .int .u8 d28, .int .u8 d27, .int .u8 d26, .int .u8 d25, .int .u8 d24, .int .u8 d23, .int .u8 d22, .int .u8 d21, .int .u8 d20, .int .u8 d19, .int .u8 d18, .int .u8 d17, .int .u8 d16, .int .u8 d15, .int .u8 d14, .int .u8 d13, .int .u8 d12, .int .u8 d11, .int .u8 d10, .int .u8 d9, .int .u8 d8, .int .u8 d7, .int .u8 d6, .int .u8 d5, .int .u8 d4, .int .u8 d3, .int .u8 d2, .int .u8 d1, .int .u8 d0] ∧ (0 ≤ d0 ∧ d0 < 256) ∧ (0 ≤ d1 ∧ d1 < 256) ∧ (0 ≤ d2 ∧ d2 < 256) ∧ (0 ≤ d3 ∧ d3 < 256) ∧ (0 ≤ d4 ∧ d4 < 256) ∧ (0 ≤ d5 ∧ d5 < 256) ∧ (0 ≤ d6 ∧ d6 < 256) ∧ (0 ≤ d7 ∧ d7 < 256) ∧ (0 ≤ d8 ∧ d8 < 256) ∧ (0 ≤ d9 ∧ d9 < 256) ∧ (0 ≤ d10 ∧ d10 < 256) ∧ (0 ≤ d11 ∧ d11 < 256) ∧ (0 ≤ d12 ∧ d12 < 256) ∧ (0 ≤ d13 ∧ d13 < 256) ∧ (0 ≤ d14 ∧ d14 < 256) ∧ (0 ≤ d15 ∧ d15 < 256) ∧ (0 ≤ d16 ∧ d16 < 256) ∧ (0 ≤ d17 ∧ d17 < 256) ∧ (0 ≤ d18 ∧ d18 < 256) ∧ (0 ≤ d19 ∧ d19 < 256) ∧ (0 ≤ d20 ∧ d20 < 256) ∧ (0 ≤ d21 ∧ d21 < 256) ∧ (0 ≤ d22 ∧ d22 < 256) ∧ (0 ≤ d23 ∧ d23 < 256) ∧ (0 ≤ d24 ∧ d24 < 256) ∧ (0 ≤ d25 ∧ d25 < 256) ∧ (0 ≤ d26 ∧ d26 < 256) ∧ (0 ≤ d27 ∧ d27 < 256) ∧ (0 ≤ d28 ∧ d28 < 256) ∧ (0 ≤ d29 ∧ d29 < 256) ∧ (0 ≤ d30 ∧ d30 < 256) ∧ (0 ≤ d31 ∧ d31 < 256) := by
  have h1 := bds_length 32 S
  have h2 := bds_bd 32 S
  unfold B32
  match bds 32 S, h1, h2 with
  | [d0, d1, d2, d3, d4, d5, d6, d7, d8, d9, d10, d11, d12, d13, d14, d15, d16, d17, d18, d19, d20, d21, d22, d23, d24, d25, d26, d27, d28, d29, d30, d31], _, h2 =>
    exact ⟨d0, d1, d2, d3, d4, d5, d6, d7, d8, d9, d10, d11, d12, d13, d14, d15, d16, d17, d18, d19, d20, d21, d22, d23, d24, d25, d26, d27, d28, d29, d30, d31, rfl, rfl, h2 d0 (by simp), h2 d1 (by simp), h2 d2 (by simp), h2 d3 (by simp), h2 d4 (by simp), h2 d5 (by simp), h2 d6 (by simp), h2 d7 (by simp), h2 d8 (by simp), h2 d9 (by simp), h2 d10 (by simp), h2 d11 (by simp), h2 d12 (by simp), h2 d13 (by simp), h2 d14 (by simp), h2 d15 (by simp), h2 d16 (by simp), h2 d17 (by simp), h2 d18 (by simp), h2 d19 (by simp), h2 d20 (by simp), h2 d21 (by simp), h2 d22 (by simp), h2 d23 (by simp), h2 d24 (by simp), h2 d25 (by simp), h2 d26 (by simp), h2 d27 (by simp), h2 d28 (by simp), h2 d29 (by simp), h2 d30 (by simp), h2 d31 (by simp)⟩

theorem and_mask (c : Int) : bits BinOp.and IntKind.i64 c 4294967295 = c % 4294967296 := by
  have e : (BitVec.ofInt 64 c &&& BitVec.ofInt 64 4294967295).toNat = (c % 4294967296).toNat := by
    rw [BitVec.toNat_and]
    have h1 : (BitVec.ofInt 64 4294967295).toNat = 4294967295 := by decide
    have h2 : (BitVec.ofInt 64 c).toNat = (c % 18446744073709551616).toNat := by simp [BitVec.toNat_ofInt]
    rw [h1, h2, show (4294967295 : Nat) = 2 ^ 32 - 1 from rfl, Nat.and_two_pow_sub_one_eq_mod]
    omega
  show IntKind.i64.wrap (((BitVec.ofInt 64 c &&& BitVec.ofInt 64 4294967295).toNat : Nat) : Int) = _
  rw [e, show (((c % 4294967296).toNat : Nat) : Int) = c % 4294967296 by omega]
  simp [IntKind.wrap, IntKind.signed, IntKind.bits]
  omega
end Go.Proofs.Ytblhnmahkabmiaa
