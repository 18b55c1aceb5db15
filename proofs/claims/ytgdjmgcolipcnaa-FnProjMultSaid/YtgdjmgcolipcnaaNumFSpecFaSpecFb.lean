/-
  What is proved here: the reference's reduction modulo the prime, plain. No program in sight.
  Conditions: those of each theorem.
-/
import Derived.Test.YtgdjmgcolipcnaaElt
import Derived.Test.YtgdjmgcolipcnaaProg
import Derived.BigRegion
import Derived.WalkKit
import Derived.WalkSpells
import Derived.Outline
import Derived.Handy
import Derived.ProofKit
import Derived.Deep.QuietTactic
import Derived.BigQuiet
import Derived.Lib.Hide
import Derived.OpenShut
import Derived.Test.YtgdjmgcolipcnaaSpecA
import Derived.Test.YtgdjmgcolipcnaaEngE
import Derived.Test.YtgdjmgcolipcnaaByuSet
namespace Go.Proofs.Ytgdjmgcolipcnaa
open Go.RowKit
set_option linter.unusedSimpArgs false
set_option linter.unusedVariables false

theorem w64 (x : Int) (h : -4611686018427387904 ≤ x ∧ x ≤ 4611686018427387904) : wrap64 x = x := by unfold wrap64; omega
theorem wadd (x y z B C : Int) (hx : -B ≤ x ∧ x ≤ B) (hy : -C ≤ y ∧ y ≤ C) (hB : B + C ≤ 4611686018427387904) (e : z = wrap64 (x + y)) : z = x + y ∧ (-(B + C) ≤ z ∧ z ≤ B + C) := by
  rw [w64 _ (by omega)] at e; omega
theorem wsub (x y z B C : Int) (hx : -B ≤ x ∧ x ≤ B) (hy : -C ≤ y ∧ y ≤ C) (hB : B + C ≤ 4611686018427387904) (e : z = wrap64 (x - y)) : z = x - y ∧ (-(B + C) ≤ z ∧ z ≤ B + C) := by
  rw [w64 _ (by omega)] at e; omega
theorem fold_lin (w0 w1 w2 w3 w4 w5 w6 w7 w8 w9 w10 w11 w12 w13 w14 w15 z15_1 z15_2 z15_5 z15_8 z14_1 z14_2 z14_5 z14_8 z13_1 z13_2 z13_5 z13_8 z12_1 z12_2 z12_5 z12_8 z11_1 z11_2 z11_5 z11_8 z10_1 z10_2 z10_5 z10_8 z9_1 z9_2 z9_5 z9_8 z8_1 z8_2 z8_5 z8_8 : Int) (e0 : z15_1 = w14 + w15) (e1 : z15_2 = w13 - w15) (e2 : z15_5 = w10 - w15) (e3 : z15_8 = w7 + w15) (e4 : z14_1 = z15_2 + z15_1) (e5 : z14_2 = w12 - z15_1) (e6 : z14_5 = w9 - z15_1) (e7 : z14_8 = w6 + z15_1) (e8 : z13_1 = z14_2 + z14_1) (e9 : z13_2 = w11 - z14_1) (e10 : z13_5 = w8 - z14_1) (e11 : z13_8 = w5 + z14_1) (e12 : z12_1 = z13_2 + z13_1) (e13 : z12_2 = z15_5 - z13_1) (e14 : z12_5 = z15_8 - z13_1) (e15 : z12_8 = w4 + z13_1) (e16 : z11_1 = z12_2 + z12_1) (e17 : z11_2 = z14_5 - z12_1) (e18 : z11_5 = z14_8 - z12_1) (e19 : z11_8 = w3 + z12_1) (e20 : z10_1 = z11_2 + z11_1) (e21 : z10_2 = z13_5 - z11_1) (e22 : z10_5 = z13_8 - z11_1) (e23 : z10_8 = w2 + z11_1) (e24 : z9_1 = z10_2 + z10_1) (e25 : z9_2 = z12_5 - z10_1) (e26 : z9_5 = z12_8 - z10_1) (e27 : z9_8 = w1 + z10_1) (e28 : z8_1 = z9_2 + z9_1) (e29 : z8_2 = z11_5 - z9_1) (e30 : z8_5 = z11_8 - z9_1) (e31 : z8_8 = w0 + z9_1) :
    val [z8_8, z9_8, z10_8, z8_5, z9_5, z10_5, z8_2, z8_1] = val [w0, w1, w2, w3, w4, w5, w6, w7, w8, w9, w10, w11, w12, w13, w14, w15] - 115792089210356248762697446949407573530086143415290314195533631308867097853951 * (26959946667150639794667015087019630673637144422540572481103610249216 * w15 + 6277101735386680763835789423207666416102355444464034512896 * z15_1 + 1461501637330902918203684832716283019655932542976 * z14_1 + 340282366920938463463374607431768211456 * z13_1 + 79228162514264337593543950336 * z12_1 + 18446744073709551616 * z11_1 + 4294967296 * z10_1 + 1 * z9_1) := by
  simp only [val]
  omega
set_option maxHeartbeats 1000000 in
theorem fold_math (w0 w1 w2 w3 w4 w5 w6 w7 w8 w9 w10 w11 w12 w13 w14 w15 z15_1 z15_2 z15_5 z15_8 z14_1 z14_2 z14_5 z14_8 z13_1 z13_2 z13_5 z13_8 z12_1 z12_2 z12_5 z12_8 z11_1 z11_2 z11_5 z11_8 z10_1 z10_2 z10_5 z10_8 z9_1 z9_2 z9_5 z9_8 z8_1 z8_2 z8_5 z8_8 : Int) (bw0 : -8589934592 ≤ w0 ∧ w0 ≤ 8589934592) (bw1 : -8589934592 ≤ w1 ∧ w1 ≤ 8589934592) (bw2 : -8589934592 ≤ w2 ∧ w2 ≤ 8589934592) (bw3 : -8589934592 ≤ w3 ∧ w3 ≤ 8589934592) (bw4 : -8589934592 ≤ w4 ∧ w4 ≤ 8589934592) (bw5 : -8589934592 ≤ w5 ∧ w5 ≤ 8589934592) (bw6 : -8589934592 ≤ w6 ∧ w6 ≤ 8589934592) (bw7 : -8589934592 ≤ w7 ∧ w7 ≤ 8589934592) (bw8 : -8589934592 ≤ w8 ∧ w8 ≤ 8589934592) (bw9 : -8589934592 ≤ w9 ∧ w9 ≤ 8589934592) (bw10 : -8589934592 ≤ w10 ∧ w10 ≤ 8589934592) (bw11 : -8589934592 ≤ w11 ∧ w11 ≤ 8589934592) (bw12 : -8589934592 ≤ w12 ∧ w12 ≤ 8589934592) (bw13 : -8589934592 ≤ w13 ∧ w13 ≤ 8589934592) (bw14 : -8589934592 ≤ w14 ∧ w14 ≤ 8589934592) (bw15 : -8589934592 ≤ w15 ∧ w15 ≤ 8589934592) (hz15_1 : z15_1 = wrap64 (w14 + w15)) (hz15_2 : z15_2 = wrap64 (w13 - w15)) (hz15_5 : z15_5 = wrap64 (w10 - w15)) (hz15_8 : z15_8 = wrap64 (w7 + w15)) (hz14_1 : z14_1 = wrap64 (z15_2 + z15_1)) (hz14_2 : z14_2 = wrap64 (w12 - z15_1)) (hz14_5 : z14_5 = wrap64 (w9 - z15_1)) (hz14_8 : z14_8 = wrap64 (w6 + z15_1)) (hz13_1 : z13_1 = wrap64 (z14_2 + z14_1)) (hz13_2 : z13_2 = wrap64 (w11 - z14_1)) (hz13_5 : z13_5 = wrap64 (w8 - z14_1)) (hz13_8 : z13_8 = wrap64 (w5 + z14_1)) (hz12_1 : z12_1 = wrap64 (z13_2 + z13_1)) (hz12_2 : z12_2 = wrap64 (z15_5 - z13_1)) (hz12_5 : z12_5 = wrap64 (z15_8 - z13_1)) (hz12_8 : z12_8 = wrap64 (w4 + z13_1)) (hz11_1 : z11_1 = wrap64 (z12_2 + z12_1)) (hz11_2 : z11_2 = wrap64 (z14_5 - z12_1)) (hz11_5 : z11_5 = wrap64 (z14_8 - z12_1)) (hz11_8 : z11_8 = wrap64 (w3 + z12_1)) (hz10_1 : z10_1 = wrap64 (z11_2 + z11_1)) (hz10_2 : z10_2 = wrap64 (z13_5 - z11_1)) (hz10_5 : z10_5 = wrap64 (z13_8 - z11_1)) (hz10_8 : z10_8 = wrap64 (w2 + z11_1)) (hz9_1 : z9_1 = wrap64 (z10_2 + z10_1)) (hz9_2 : z9_2 = wrap64 (z12_5 - z10_1)) (hz9_5 : z9_5 = wrap64 (z12_8 - z10_1)) (hz9_8 : z9_8 = wrap64 (w1 + z10_1)) (hz8_1 : z8_1 = wrap64 (z9_2 + z9_1)) (hz8_2 : z8_2 = wrap64 (z11_5 - z9_1)) (hz8_5 : z8_5 = wrap64 (z11_8 - z9_1)) (hz8_8 : z8_8 = wrap64 (w0 + z9_1)) :
    (∃ q : Int, val [z8_8, z9_8, z10_8, z8_5, z9_5, z10_5, z8_2, z8_1] = val [w0, w1, w2, w3, w4, w5, w6, w7, w8, w9, w10, w11, w12, w13, w14, w15] - 115792089210356248762697446949407573530086143415290314195533631308867097853951 * q) ∧ ∀ x ∈ [z8_8, z9_8, z10_8, z8_5, z9_5, z10_5, z8_2, z8_1], -17592186044416 ≤ x ∧ x ≤ 17592186044416 := by
  obtain ⟨ez15_1, bz15_1⟩ := wadd w14 w15 z15_1 8589934592 8589934592 bw14 bw15 (by decide) hz15_1
  obtain ⟨ez15_2, bz15_2⟩ := wsub w13 w15 z15_2 8589934592 8589934592 bw13 bw15 (by decide) hz15_2
  obtain ⟨ez15_5, bz15_5⟩ := wsub w10 w15 z15_5 8589934592 8589934592 bw10 bw15 (by decide) hz15_5
  obtain ⟨ez15_8, bz15_8⟩ := wadd w7 w15 z15_8 8589934592 8589934592 bw7 bw15 (by decide) hz15_8
  obtain ⟨ez14_1, bz14_1⟩ := wadd z15_2 z15_1 z14_1 17179869184 17179869184 bz15_2 bz15_1 (by decide) hz14_1
  obtain ⟨ez14_2, bz14_2⟩ := wsub w12 z15_1 z14_2 8589934592 17179869184 bw12 bz15_1 (by decide) hz14_2
  obtain ⟨ez14_5, bz14_5⟩ := wsub w9 z15_1 z14_5 8589934592 17179869184 bw9 bz15_1 (by decide) hz14_5
  obtain ⟨ez14_8, bz14_8⟩ := wadd w6 z15_1 z14_8 8589934592 17179869184 bw6 bz15_1 (by decide) hz14_8
  obtain ⟨ez13_1, bz13_1⟩ := wadd z14_2 z14_1 z13_1 25769803776 34359738368 bz14_2 bz14_1 (by decide) hz13_1
  obtain ⟨ez13_2, bz13_2⟩ := wsub w11 z14_1 z13_2 8589934592 34359738368 bw11 bz14_1 (by decide) hz13_2
  obtain ⟨ez13_5, bz13_5⟩ := wsub w8 z14_1 z13_5 8589934592 34359738368 bw8 bz14_1 (by decide) hz13_5
  obtain ⟨ez13_8, bz13_8⟩ := wadd w5 z14_1 z13_8 8589934592 34359738368 bw5 bz14_1 (by decide) hz13_8
  obtain ⟨ez12_1, bz12_1⟩ := wadd z13_2 z13_1 z12_1 42949672960 60129542144 bz13_2 bz13_1 (by decide) hz12_1
  obtain ⟨ez12_2, bz12_2⟩ := wsub z15_5 z13_1 z12_2 17179869184 60129542144 bz15_5 bz13_1 (by decide) hz12_2
  obtain ⟨ez12_5, bz12_5⟩ := wsub z15_8 z13_1 z12_5 17179869184 60129542144 bz15_8 bz13_1 (by decide) hz12_5
  obtain ⟨ez12_8, bz12_8⟩ := wadd w4 z13_1 z12_8 8589934592 60129542144 bw4 bz13_1 (by decide) hz12_8
  obtain ⟨ez11_1, bz11_1⟩ := wadd z12_2 z12_1 z11_1 77309411328 103079215104 bz12_2 bz12_1 (by decide) hz11_1
  obtain ⟨ez11_2, bz11_2⟩ := wsub z14_5 z12_1 z11_2 25769803776 103079215104 bz14_5 bz12_1 (by decide) hz11_2
  obtain ⟨ez11_5, bz11_5⟩ := wsub z14_8 z12_1 z11_5 25769803776 103079215104 bz14_8 bz12_1 (by decide) hz11_5
  obtain ⟨ez11_8, bz11_8⟩ := wadd w3 z12_1 z11_8 8589934592 103079215104 bw3 bz12_1 (by decide) hz11_8
  obtain ⟨ez10_1, bz10_1⟩ := wadd z11_2 z11_1 z10_1 128849018880 180388626432 bz11_2 bz11_1 (by decide) hz10_1
  obtain ⟨ez10_2, bz10_2⟩ := wsub z13_5 z11_1 z10_2 42949672960 180388626432 bz13_5 bz11_1 (by decide) hz10_2
  obtain ⟨ez10_5, bz10_5⟩ := wsub z13_8 z11_1 z10_5 42949672960 180388626432 bz13_8 bz11_1 (by decide) hz10_5
  obtain ⟨ez10_8, bz10_8⟩ := wadd w2 z11_1 z10_8 8589934592 180388626432 bw2 bz11_1 (by decide) hz10_8
  obtain ⟨ez9_1, bz9_1⟩ := wadd z10_2 z10_1 z9_1 223338299392 309237645312 bz10_2 bz10_1 (by decide) hz9_1
  obtain ⟨ez9_2, bz9_2⟩ := wsub z12_5 z10_1 z9_2 77309411328 309237645312 bz12_5 bz10_1 (by decide) hz9_2
  obtain ⟨ez9_5, bz9_5⟩ := wsub z12_8 z10_1 z9_5 68719476736 309237645312 bz12_8 bz10_1 (by decide) hz9_5
  obtain ⟨ez9_8, bz9_8⟩ := wadd w1 z10_1 z9_8 8589934592 309237645312 bw1 bz10_1 (by decide) hz9_8
  obtain ⟨ez8_1, bz8_1⟩ := wadd z9_2 z9_1 z8_1 386547056640 532575944704 bz9_2 bz9_1 (by decide) hz8_1
  obtain ⟨ez8_2, bz8_2⟩ := wsub z11_5 z9_1 z8_2 128849018880 532575944704 bz11_5 bz9_1 (by decide) hz8_2
  obtain ⟨ez8_5, bz8_5⟩ := wsub z11_8 z9_1 z8_5 111669149696 532575944704 bz11_8 bz9_1 (by decide) hz8_5
  obtain ⟨ez8_8, bz8_8⟩ := wadd w0 z9_1 z8_8 8589934592 532575944704 bw0 bz9_1 (by decide) hz8_8
  refine ⟨⟨26959946667150639794667015087019630673637144422540572481103610249216 * w15 + 6277101735386680763835789423207666416102355444464034512896 * z15_1 + 1461501637330902918203684832716283019655932542976 * z14_1 + 340282366920938463463374607431768211456 * z13_1 + 79228162514264337593543950336 * z12_1 + 18446744073709551616 * z11_1 + 4294967296 * z10_1 + 1 * z9_1, ?_⟩, ?_⟩
  · exact fold_lin _ _ _ _ _ _ _ _ _ _ _ _ _ _ _ _ _ _ _ _ _ _ _ _ _ _ _ _ _ _ _ _ _ _ _ _ _ _ _ _ _ _ _ _ _ _ _ _ ez15_1 ez15_2 ez15_5 ez15_8 ez14_1 ez14_2 ez14_5 ez14_8 ez13_1 ez13_2 ez13_5 ez13_8 ez12_1 ez12_2 ez12_5 ez12_8 ez11_1 ez11_2 ez11_5 ez11_8 ez10_1 ez10_2 ez10_5 ez10_8 ez9_1 ez9_2 ez9_5 ez9_8 ez8_1 ez8_2 ez8_5 ez8_8
  · intro x hx
    simp only [List.mem_cons, List.not_mem_nil, or_false] at hx
    rcases hx with rfl | rfl | rfl | rfl | rfl | rfl | rfl | rfl
    · exact ⟨Int.le_trans (by decide) bz8_8.1, Int.le_trans bz8_8.2 (by decide)⟩
    · exact ⟨Int.le_trans (by decide) bz9_8.1, Int.le_trans bz9_8.2 (by decide)⟩
    · exact ⟨Int.le_trans (by decide) bz10_8.1, Int.le_trans bz10_8.2 (by decide)⟩
    · exact ⟨Int.le_trans (by decide) bz8_5.1, Int.le_trans bz8_5.2 (by decide)⟩
    · exact ⟨Int.le_trans (by decide) bz9_5.1, Int.le_trans bz9_5.2 (by decide)⟩
    · exact ⟨Int.le_trans (by decide) bz10_5.1, Int.le_trans bz10_5.2 (by decide)⟩
    · exact ⟨Int.le_trans (by decide) bz8_2.1, Int.le_trans bz8_2.2 (by decide)⟩
    · exact ⟨Int.le_trans (by decide) bz8_1.1, Int.le_trans bz8_1.2 (by decide)⟩

/-- The second loop: the carry is put in once more. -/
theorem fold2 (d0 d1 d2 d3 d4 d5 d6 d7 c y0 y3 y6 y7 : Int) (h0 : 0 ≤ d0 ∧ d0 < 4294967296) (h3 : 0 ≤ d3 ∧ d3 < 4294967296) (h6 : 0 ≤ d6 ∧ d6 < 4294967296) (h7 : 0 ≤ d7 ∧ d7 < 4294967296) (hc : -1125899906842624 ≤ c ∧ c ≤ 1125899906842624)
    (e7 : y7 = wrap64 (d7 + c)) (e6 : y6 = wrap64 (d6 - c)) (e3 : y3 = wrap64 (d3 - c)) (e0 : y0 = wrap64 (d0 + c)) :
    val [y0, d1, d2, y3, d4, d5, y6, y7] = val [d0, d1, d2, d3, d4, d5, d6, d7] + 26959946660873538059280334323183841250350249843923952699046031785985 * c ∧ (-2251799813685248 ≤ y0 ∧ y0 ≤ 2251799813685248) ∧ (-2251799813685248 ≤ y3 ∧ y3 ≤ 2251799813685248) ∧ (-2251799813685248 ≤ y6 ∧ y6 ≤ 2251799813685248) ∧ (-2251799813685248 ≤ y7 ∧ y7 ≤ 2251799813685248) := by
  rw [w64 _ (by omega)] at e7 e6 e3 e0
  refine ⟨?_, by omega, by omega, by omega, by omega⟩
  clear h0 h3 h6 h7 hc
  subst e7; subst e6; subst e3; subst e0
  simp only [val]
  omega
theorem mod_step (V : Int) : val (digs 8 V) + 26959946660873538059280334323183841250350249843923952699046031785985 * cy 8 V = V - 115792089210356248762697446949407573530086143415290314195533631308867097853951 * cy 8 V := by
  have h := val_digs 8 V
  rw [pow8] at h
  rw [h]
  simp only [R256]
  omega
/-- The chain of the second loop. -/
def red1 (V : Int) : Int := V - 115792089210356248762697446949407573530086143415290314195533631308867097853951 * cy 8 V
theorem cy8 (V : Int) : cy 8 V = V / 115792089237316195423570985008687907853269984665640564039457584007913129639936 := by rw [cy_eq, pow8]; rfl
theorem cy_small (V : Int) (h0 : 0 ≤ V) (h1 : V < 115792089237316195423570985008687907853269984665640564039457584007913129639936) : cy 8 V = 0 := by rw [cy8]; omega
/-- Behind one round the carry is -1, 0 or 1; behind two it is 0. -/
theorem red1_cy (V : Int) (hc : -1048576 ≤ cy 8 V ∧ cy 8 V ≤ 1048576) : (cy 8 (red1 V) = -1 ∨ cy 8 (red1 V) = 0 ∨ cy 8 (red1 V) = 1) := by
  rw [cy8] at hc ⊢
  unfold red1
  rw [cy8]
  generalize hq : V / 115792089237316195423570985008687907853269984665640564039457584007913129639936 = q at *
  have h1 : V - 115792089237316195423570985008687907853269984665640564039457584007913129639936 * q < 115792089237316195423570985008687907853269984665640564039457584007913129639936 ∧ 0 ≤ V - 115792089237316195423570985008687907853269984665640564039457584007913129639936 * q := by omega
  clear hq
  omega
theorem red1_cy0 (V : Int) (hc : cy 8 V = -1 ∨ cy 8 V = 1) (hb : -1809251394333065553493296640760748560207343510400633813116524750123642650624 ≤ V ∧ V < 117601340631649260977064281649448656413477328176041197852574108758036772290560) : cy 8 (red1 V) = 0 ∧ 0 ≤ red1 V ∧ red1 V < 115792089237316195423570985008687907853269984665640564039457584007913129639936 := by
  unfold red1
  rw [cy8] at hc
  rw [cy8, cy8]
  rcases hc with e | e
  · rw [e]; omega
  · rw [e]; omega
theorem red1_bd (V : Int) (hc : -1048576 ≤ cy 8 V ∧ cy 8 V ≤ 1048576) : -1809251394333065553493296640760748560207343510400633813116524750123642650624 ≤ red1 V ∧ red1 V < 117601340631649260977064281649448656413477328176041197852574108758036772290560 := by
  rw [cy8] at hc
  unfold red1
  rw [cy8]
  generalize hq : V / 115792089237316195423570985008687907853269984665640564039457584007913129639936 = q at *
  have h1 : V - 115792089237316195423570985008687907853269984665640564039457584007913129639936 * q < 115792089237316195423570985008687907853269984665640564039457584007913129639936 ∧ 0 ≤ V - 115792089237316195423570985008687907853269984665640564039457584007913129639936 * q := by omega
  clear hq
  omega
/-- How many rounds are left. -/
def stm (V : Int) : Nat := if cy 8 V = 0 then 0 else if (cy 8 V = -1 ∨ cy 8 V = 1) ∧ -1809251394333065553493296640760748560207343510400633813116524750123642650624 ≤ V ∧ V < 117601340631649260977064281649448656413477328176041197852574108758036772290560 then 1 else 2
theorem stm_lt (V : Int) (h0 : cy 8 V ≠ 0) (hc : -1048576 ≤ cy 8 V ∧ cy 8 V ≤ 1048576) : stm (red1 V) < stm V ∧ (-1048576 ≤ cy 8 (red1 V) ∧ cy 8 (red1 V) ≤ 1048576) := by
  have h1 := red1_cy V hc
  have hb := red1_bd V hc
  refine ⟨?_, by omega⟩
  unfold stm
  rw [if_neg h0]
  by_cases h2 : (cy 8 V = -1 ∨ cy 8 V = 1) ∧ -1809251394333065553493296640760748560207343510400633813116524750123642650624 ≤ V ∧ V < 117601340631649260977064281649448656413477328176041197852574108758036772290560
  · rw [if_pos h2, if_pos (red1_cy0 V h2.1 h2.2).1]
    decide
  · rw [if_neg h2]
    by_cases h3 : cy 8 (red1 V) = 0
    · rw [if_pos h3]; decide
    · rw [if_neg h3, if_pos ⟨by omega, hb⟩]; decide
theorem emod_red1 (V : Int) : red1 V % pI = V % pI := by
  unfold red1
  rw [show V - 115792089210356248762697446949407573530086143415290314195533631308867097853951 * cy 8 V = V + pI * (-cy 8 V) by simp only [pI]; omega, Int.add_mul_emod_self_left]
theorem emod_q (V W q : Int) (h : V = W - 115792089210356248762697446949407573530086143415290314195533631308867097853951 * q) : V % pI = W % pI := by
  rw [h, show W - 115792089210356248762697446949407573530086143415290314195533631308867097853951 * q = W + pI * (-q) by simp only [pI]; omega, Int.add_mul_emod_self_left]
/-- The last difference. -/
theorem emod_last (V : Int) (h0 : 0 ≤ V) (h1 : V < R256) : V % pI = if V < pI then V else V - pI := by
  split
  · exact Int.emod_eq_of_lt h0 ‹_›
  · rename_i h
    have e : V = (V - pI) + pI * 1 := by omega
    rw [e, Int.add_mul_emod_self_left, Int.emod_eq_of_lt (by omega) (by simp only [pI, R256] at *; omega)]
    omega
theorem val8_bd (l : List Int) (hl : l.length = 8) (h : ∀ x ∈ l, -17592186044416 ≤ x ∧ x ≤ 17592186044416) : -1048576 ≤ cy 8 (val l) ∧ cy 8 (val l) ≤ 1048576 := by
  rw [cy8]
  match l, hl, h with
  | [a0, a1, a2, a3, a4, a5, a6, a7], _, h =>
    have h0 := h a0 (by simp); have h1 := h a1 (by simp); have h2 := h a2 (by simp); have h3 := h a3 (by simp)
    have h4 := h a4 (by simp); have h5 := h a5 (by simp); have h6 := h a6 (by simp); have h7 := h a7 (by simp)
    simp only [val]
    omega
end Go.Proofs.Ytgdjmgcolipcnaa
/-
  What is proved here: what the reference's functions on the field return.
  Conditions: those of each theorem.
-/
namespace Go.Proofs.Ytgdjmgcolipcnaa
open Go Go.RowKit Ecp
set_option linter.unusedSimpArgs false
set_option linter.unusedVariables false

set_option maxRecDepth 100000 in
theorem folded_8 (b : Nat) (x1 x2 x5 x8 t : Int) (w : World) (h1 : w.cell? ⟨b, 7, none⟩ = some (.int .i64 x1)) (h2 : w.cell? ⟨b, 6, none⟩ = some (.int .i64 x2)) (h5 : w.cell? ⟨b, 3, none⟩ = some (.int .i64 x5)) (h8 : w.cell? ⟨b, 0, none⟩ = some (.int .i64 x8)) (hf : ∀ o, w.frozen? ⟨b, o, none⟩ = false) :
    Calls Try.prog 37 #[.pointer (some ⟨b, 0, none⟩), .int .i64 8, .int .i64 t] w fun e w' => e = .returned (.tuple #[]) ∧ ∃ n, w' = ((((w.setCell ⟨b, 7, none⟩ (.int .i64 (wrap64 (x1 + t)))).setCell ⟨b, 6, none⟩ (.int .i64 (wrap64 (x2 - t)))).setCell ⟨b, 3, none⟩ (.int .i64 (wrap64 (x5 - t)))).setCell ⟨b, 0, none⟩ (.int .i64 (wrap64 (x8 + t)))).drewN n := by
  go_enter Try.func37, Try.ntmps37
  go_wp2_with (go_region)
  exact bodyPost_end (results_none rfl _ _ _) rfl ⟨rfl, 4, rfl⟩
set_option maxRecDepth 100000 in
theorem folded_9 (b : Nat) (x1 x2 x5 x8 t : Int) (w : World) (h1 : w.cell? ⟨b, 8, none⟩ = some (.int .i64 x1)) (h2 : w.cell? ⟨b, 7, none⟩ = some (.int .i64 x2)) (h5 : w.cell? ⟨b, 4, none⟩ = some (.int .i64 x5)) (h8 : w.cell? ⟨b, 1, none⟩ = some (.int .i64 x8)) (hf : ∀ o, w.frozen? ⟨b, o, none⟩ = false) :
    Calls Try.prog 37 #[.pointer (some ⟨b, 0, none⟩), .int .i64 9, .int .i64 t] w fun e w' => e = .returned (.tuple #[]) ∧ ∃ n, w' = ((((w.setCell ⟨b, 8, none⟩ (.int .i64 (wrap64 (x1 + t)))).setCell ⟨b, 7, none⟩ (.int .i64 (wrap64 (x2 - t)))).setCell ⟨b, 4, none⟩ (.int .i64 (wrap64 (x5 - t)))).setCell ⟨b, 1, none⟩ (.int .i64 (wrap64 (x8 + t)))).drewN n := by
  go_enter Try.func37, Try.ntmps37
  go_wp2_with (go_region)
  exact bodyPost_end (results_none rfl _ _ _) rfl ⟨rfl, 4, rfl⟩
set_option maxRecDepth 100000 in
theorem folded_10 (b : Nat) (x1 x2 x5 x8 t : Int) (w : World) (h1 : w.cell? ⟨b, 9, none⟩ = some (.int .i64 x1)) (h2 : w.cell? ⟨b, 8, none⟩ = some (.int .i64 x2)) (h5 : w.cell? ⟨b, 5, none⟩ = some (.int .i64 x5)) (h8 : w.cell? ⟨b, 2, none⟩ = some (.int .i64 x8)) (hf : ∀ o, w.frozen? ⟨b, o, none⟩ = false) :
    Calls Try.prog 37 #[.pointer (some ⟨b, 0, none⟩), .int .i64 10, .int .i64 t] w fun e w' => e = .returned (.tuple #[]) ∧ ∃ n, w' = ((((w.setCell ⟨b, 9, none⟩ (.int .i64 (wrap64 (x1 + t)))).setCell ⟨b, 8, none⟩ (.int .i64 (wrap64 (x2 - t)))).setCell ⟨b, 5, none⟩ (.int .i64 (wrap64 (x5 - t)))).setCell ⟨b, 2, none⟩ (.int .i64 (wrap64 (x8 + t)))).drewN n := by
  go_enter Try.func37, Try.ntmps37
  go_wp2_with (go_region)
  exact bodyPost_end (results_none rfl _ _ _) rfl ⟨rfl, 4, rfl⟩
set_option maxRecDepth 100000 in
theorem folded_11 (b : Nat) (x1 x2 x5 x8 t : Int) (w : World) (h1 : w.cell? ⟨b, 10, none⟩ = some (.int .i64 x1)) (h2 : w.cell? ⟨b, 9, none⟩ = some (.int .i64 x2)) (h5 : w.cell? ⟨b, 6, none⟩ = some (.int .i64 x5)) (h8 : w.cell? ⟨b, 3, none⟩ = some (.int .i64 x8)) (hf : ∀ o, w.frozen? ⟨b, o, none⟩ = false) :
    Calls Try.prog 37 #[.pointer (some ⟨b, 0, none⟩), .int .i64 11, .int .i64 t] w fun e w' => e = .returned (.tuple #[]) ∧ ∃ n, w' = ((((w.setCell ⟨b, 10, none⟩ (.int .i64 (wrap64 (x1 + t)))).setCell ⟨b, 9, none⟩ (.int .i64 (wrap64 (x2 - t)))).setCell ⟨b, 6, none⟩ (.int .i64 (wrap64 (x5 - t)))).setCell ⟨b, 3, none⟩ (.int .i64 (wrap64 (x8 + t)))).drewN n := by
  go_enter Try.func37, Try.ntmps37
  go_wp2_with (go_region)
  exact bodyPost_end (results_none rfl _ _ _) rfl ⟨rfl, 4, rfl⟩
set_option maxRecDepth 100000 in
theorem folded_12 (b : Nat) (x1 x2 x5 x8 t : Int) (w : World) (h1 : w.cell? ⟨b, 11, none⟩ = some (.int .i64 x1)) (h2 : w.cell? ⟨b, 10, none⟩ = some (.int .i64 x2)) (h5 : w.cell? ⟨b, 7, none⟩ = some (.int .i64 x5)) (h8 : w.cell? ⟨b, 4, none⟩ = some (.int .i64 x8)) (hf : ∀ o, w.frozen? ⟨b, o, none⟩ = false) :
    Calls Try.prog 37 #[.pointer (some ⟨b, 0, none⟩), .int .i64 12, .int .i64 t] w fun e w' => e = .returned (.tuple #[]) ∧ ∃ n, w' = ((((w.setCell ⟨b, 11, none⟩ (.int .i64 (wrap64 (x1 + t)))).setCell ⟨b, 10, none⟩ (.int .i64 (wrap64 (x2 - t)))).setCell ⟨b, 7, none⟩ (.int .i64 (wrap64 (x5 - t)))).setCell ⟨b, 4, none⟩ (.int .i64 (wrap64 (x8 + t)))).drewN n := by
  go_enter Try.func37, Try.ntmps37
  go_wp2_with (go_region)
  exact bodyPost_end (results_none rfl _ _ _) rfl ⟨rfl, 4, rfl⟩
set_option maxRecDepth 100000 in
theorem folded_13 (b : Nat) (x1 x2 x5 x8 t : Int) (w : World) (h1 : w.cell? ⟨b, 12, none⟩ = some (.int .i64 x1)) (h2 : w.cell? ⟨b, 11, none⟩ = some (.int .i64 x2)) (h5 : w.cell? ⟨b, 8, none⟩ = some (.int .i64 x5)) (h8 : w.cell? ⟨b, 5, none⟩ = some (.int .i64 x8)) (hf : ∀ o, w.frozen? ⟨b, o, none⟩ = false) :
    Calls Try.prog 37 #[.pointer (some ⟨b, 0, none⟩), .int .i64 13, .int .i64 t] w fun e w' => e = .returned (.tuple #[]) ∧ ∃ n, w' = ((((w.setCell ⟨b, 12, none⟩ (.int .i64 (wrap64 (x1 + t)))).setCell ⟨b, 11, none⟩ (.int .i64 (wrap64 (x2 - t)))).setCell ⟨b, 8, none⟩ (.int .i64 (wrap64 (x5 - t)))).setCell ⟨b, 5, none⟩ (.int .i64 (wrap64 (x8 + t)))).drewN n := by
  go_enter Try.func37, Try.ntmps37
  go_wp2_with (go_region)
  exact bodyPost_end (results_none rfl _ _ _) rfl ⟨rfl, 4, rfl⟩
set_option maxRecDepth 100000 in
theorem folded_14 (b : Nat) (x1 x2 x5 x8 t : Int) (w : World) (h1 : w.cell? ⟨b, 13, none⟩ = some (.int .i64 x1)) (h2 : w.cell? ⟨b, 12, none⟩ = some (.int .i64 x2)) (h5 : w.cell? ⟨b, 9, none⟩ = some (.int .i64 x5)) (h8 : w.cell? ⟨b, 6, none⟩ = some (.int .i64 x8)) (hf : ∀ o, w.frozen? ⟨b, o, none⟩ = false) :
    Calls Try.prog 37 #[.pointer (some ⟨b, 0, none⟩), .int .i64 14, .int .i64 t] w fun e w' => e = .returned (.tuple #[]) ∧ ∃ n, w' = ((((w.setCell ⟨b, 13, none⟩ (.int .i64 (wrap64 (x1 + t)))).setCell ⟨b, 12, none⟩ (.int .i64 (wrap64 (x2 - t)))).setCell ⟨b, 9, none⟩ (.int .i64 (wrap64 (x5 - t)))).setCell ⟨b, 6, none⟩ (.int .i64 (wrap64 (x8 + t)))).drewN n := by
  go_enter Try.func37, Try.ntmps37
  go_wp2_with (go_region)
  exact bodyPost_end (results_none rfl _ _ _) rfl ⟨rfl, 4, rfl⟩
set_option maxRecDepth 100000 in
theorem folded_15 (b : Nat) (x1 x2 x5 x8 t : Int) (w : World) (h1 : w.cell? ⟨b, 14, none⟩ = some (.int .i64 x1)) (h2 : w.cell? ⟨b, 13, none⟩ = some (.int .i64 x2)) (h5 : w.cell? ⟨b, 10, none⟩ = some (.int .i64 x5)) (h8 : w.cell? ⟨b, 7, none⟩ = some (.int .i64 x8)) (hf : ∀ o, w.frozen? ⟨b, o, none⟩ = false) :
    Calls Try.prog 37 #[.pointer (some ⟨b, 0, none⟩), .int .i64 15, .int .i64 t] w fun e w' => e = .returned (.tuple #[]) ∧ ∃ n, w' = ((((w.setCell ⟨b, 14, none⟩ (.int .i64 (wrap64 (x1 + t)))).setCell ⟨b, 13, none⟩ (.int .i64 (wrap64 (x2 - t)))).setCell ⟨b, 10, none⟩ (.int .i64 (wrap64 (x5 - t)))).setCell ⟨b, 7, none⟩ (.int .i64 (wrap64 (x8 + t)))).drewN n := by
  go_enter Try.func37, Try.ntmps37
  go_wp2_with (go_region)
  exact bodyPost_end (results_none rfl _ _ _) rfl ⟨rfl, 4, rfl⟩
end Go.Proofs.Ytgdjmgcolipcnaa
/-
  What is proved here: what the reference's functions on the field return.
  Conditions: those of each theorem.
-/
namespace Go.Proofs.Ytgdjmgcolipcnaa
open Go Go.RowKit Ecp
set_option linter.unusedSimpArgs false
set_option linter.unusedVariables false

/-- Sixteen words in cells. -/
def Wds (w : World) (b : Nat) (l : List Int) : Prop := ∀ i x, l[i]? = some x → w.cell? ⟨b, i, none⟩ = some (.int .i64 x)

theorem Wds.at {w : World} {b : Nat} {l : List Int} (h : Wds w b l) {j : Nat} (hj : j < l.length) : w.cell? ⟨b, j, none⟩ = some (.int .i64 (l.getD j 0)) := h j _ (getD_in' hj)
theorem Wds.set {w : World} {b : Nat} {l : List Int} (h : Wds w b l) {j : Nat} (hj : j < l.length) (x : Int) : Wds (w.setCell ⟨b, j, none⟩ (.int .i64 x)) b (l.set j x) := by
  intro i y hi
  rw [cell_set _ _ _ _ _ (by rw [h.at hj]; rfl)]
  by_cases e : j = i
  · subst e
    rw [List.getElem?_set_self hj] at hi
    obtain rfl := Option.some.inj hi
    rw [if_pos rfl]
  · rw [List.getElem?_set_ne e] at hi
    rw [if_neg e]
    exact h i y hi
theorem Wds.drewN {w : World} {b : Nat} {l : List Int} (h : Wds w b l) (n : Nat) : Wds (w.drewN n) b l := h
/-- t goes into the words below word i. -/
def addAt (l : List Int) (i : Nat) (t : Int) : List Int :=
  let l1 := l.set (i - 1) (wrap64 (l.getD (i - 1) 0 + t))
  let l2 := l1.set (i - 2) (wrap64 (l.getD (i - 2) 0 - t))
  let l3 := l2.set (i - 5) (wrap64 (l.getD (i - 5) 0 - t))
  l3.set (i - 8) (wrap64 (l.getD (i - 8) 0 + t))
theorem addAt_length (l : List Int) (i : Nat) (t : Int) : (addAt l i t).length = l.length := by simp [addAt]
theorem turned_set4 (w : World) (b a1 a2 a3 a4 n : Nat) (v1 v2 v3 v4 : Value) (h1 : a1 < 16) (h2 : a2 < 16) (h3 : a3 < 16) (h4 : a4 < 16) :
    Turned b 0 16 w (((((w.setCell ⟨b, a1, none⟩ v1).setCell ⟨b, a2, none⟩ v2).setCell ⟨b, a3, none⟩ v3).setCell ⟨b, a4, none⟩ v4).drewN n) := by
  refine Turned.drewN ⟨((((Away.refl b w).setCell _ _).setCell _ _).setCell _ _).setCell _ _, fun i hi => ?_, fun i => ?_⟩ n
  · have e : ∀ j, j < 16 → i ≠ j := fun j hj => by have := hi j hj; omega
    have e1 := e a1 h1; have e2 := e a2 h2; have e3 := e a3 h3; have e4 := e a4 h4
    rw [World.cell?_setCell_other _ _ _ _ (by simp [Ne.symm e4]), World.cell?_setCell_other _ _ _ _ (by simp [Ne.symm e3]), World.cell?_setCell_other _ _ _ _ (by simp [Ne.symm e2]), World.cell?_setCell_other _ _ _ _ (by simp [Ne.symm e1])]
  · simp only [World.frozen?_setCell]
set_option maxHeartbeats 1000000 in
theorem folded_any (b i : Nat) (t : Int) (l : List Int) (hl : l.length = 16) (hi : 8 ≤ i ∧ i ≤ 15) (w : World) (h : Wds w b l) (hf : ∀ o, w.frozen? ⟨b, o, none⟩ = false) :
    Calls Try.prog 37 #[.pointer (some ⟨b, 0, none⟩), .int .i64 (i : Int), .int .i64 t] w fun e w' => e = .returned (.tuple #[]) ∧ Turned b 0 16 w w' ∧ Wds w' b (addAt l i t) := by
  have hA : ∀ j, j < 16 → w.cell? ⟨b, j, none⟩ = some (.int .i64 (l.getD j 0)) := fun j hj => h.at (by omega)
  have fin : ∀ n, Turned b 0 16 w (((((w.setCell ⟨b, i - 1, none⟩ (.int .i64 (wrap64 (l.getD (i - 1) 0 + t)))).setCell ⟨b, i - 2, none⟩ (.int .i64 (wrap64 (l.getD (i - 2) 0 - t)))).setCell ⟨b, i - 5, none⟩ (.int .i64 (wrap64 (l.getD (i - 5) 0 - t)))).setCell ⟨b, i - 8, none⟩ (.int .i64 (wrap64 (l.getD (i - 8) 0 + t)))).drewN n) ∧
      Wds (((((w.setCell ⟨b, i - 1, none⟩ (.int .i64 (wrap64 (l.getD (i - 1) 0 + t)))).setCell ⟨b, i - 2, none⟩ (.int .i64 (wrap64 (l.getD (i - 2) 0 - t)))).setCell ⟨b, i - 5, none⟩ (.int .i64 (wrap64 (l.getD (i - 5) 0 - t)))).setCell ⟨b, i - 8, none⟩ (.int .i64 (wrap64 (l.getD (i - 8) 0 + t)))).drewN n) b (addAt l i t) := fun n =>
    ⟨turned_set4 _ _ _ _ _ _ _ _ _ _ _ (by omega) (by omega) (by omega) (by omega), ((((h.set (by omega) _).set (by simp; omega) _).set (by simp; omega) _).set (by simp; omega) _).drewN n⟩
  rcases (show i = 8 ∨ i = 9 ∨ i = 10 ∨ i = 11 ∨ i = 12 ∨ i = 13 ∨ i = 14 ∨ i = 15 by omega) with rfl | rfl | rfl | rfl | rfl | rfl | rfl | rfl
  · refine (folded_8 b _ _ _ _ t w (hA 7 (by decide)) (hA 6 (by decide)) (hA 3 (by decide)) (hA 0 (by decide)) hf).mono ?_
    rintro e w' ⟨rfl, n, rfl⟩
    have := fin n
    simp only [Nat.reduceSub] at this
    exact ⟨rfl, this⟩
  · refine (folded_9 b _ _ _ _ t w (hA 8 (by decide)) (hA 7 (by decide)) (hA 4 (by decide)) (hA 1 (by decide)) hf).mono ?_
    rintro e w' ⟨rfl, n, rfl⟩
    have := fin n
    simp only [Nat.reduceSub] at this
    exact ⟨rfl, this⟩
  · refine (folded_10 b _ _ _ _ t w (hA 9 (by decide)) (hA 8 (by decide)) (hA 5 (by decide)) (hA 2 (by decide)) hf).mono ?_
    rintro e w' ⟨rfl, n, rfl⟩
    have := fin n
    simp only [Nat.reduceSub] at this
    exact ⟨rfl, this⟩
  · refine (folded_11 b _ _ _ _ t w (hA 10 (by decide)) (hA 9 (by decide)) (hA 6 (by decide)) (hA 3 (by decide)) hf).mono ?_
    rintro e w' ⟨rfl, n, rfl⟩
    have := fin n
    simp only [Nat.reduceSub] at this
    exact ⟨rfl, this⟩
  · refine (folded_12 b _ _ _ _ t w (hA 11 (by decide)) (hA 10 (by decide)) (hA 7 (by decide)) (hA 4 (by decide)) hf).mono ?_
    rintro e w' ⟨rfl, n, rfl⟩
    have := fin n
    simp only [Nat.reduceSub] at this
    exact ⟨rfl, this⟩
  · refine (folded_13 b _ _ _ _ t w (hA 12 (by decide)) (hA 11 (by decide)) (hA 8 (by decide)) (hA 5 (by decide)) hf).mono ?_
    rintro e w' ⟨rfl, n, rfl⟩
    have := fin n
    simp only [Nat.reduceSub] at this
    exact ⟨rfl, this⟩
  · refine (folded_14 b _ _ _ _ t w (hA 13 (by decide)) (hA 12 (by decide)) (hA 9 (by decide)) (hA 6 (by decide)) hf).mono ?_
    rintro e w' ⟨rfl, n, rfl⟩
    have := fin n
    simp only [Nat.reduceSub] at this
    exact ⟨rfl, this⟩
  · refine (folded_15 b _ _ _ _ t w (hA 14 (by decide)) (hA 13 (by decide)) (hA 10 (by decide)) (hA 7 (by decide)) hf).mono ?_
    rintro e w' ⟨rfl, n, rfl⟩
    have := fin n
    simp only [Nat.reduceSub] at this
    exact ⟨rfl, this⟩
end Go.Proofs.Ytgdjmgcolipcnaa
