/-
  What is proved here: what fiat's functions on the field of P-256 return.
  Conditions: those of each theorem.
-/
import Derived.Test.YtgdjmgcolipcnaaProg
import Derived.Test.YtgdjmgcolipcnaaInstF
import Derived.Test.YtgdjmgcolipcnaaEngE
import Derived.Test.YtgdjmgcolipcnaaElt
import Derived.Test.YtgdjmgcolipcnaaArMul
import Derived.Test.YtgdjmgcolipcnaaArSqr
import Derived.Test.YtgdjmgcolipcnaaArTm
import Derived.Test.YtgdjmgcolipcnaaArFm
import Derived.Test.YtgdjmgcolipcnaaArS
namespace Go.Proofs.Ytgdjmgcolipcnaa
open Go Go.RowKit Ecp
set_option linter.unusedSimpArgs false
set_option linter.unusedVariables false

/-- Where the four words of the result lie. -/
def outs4 (st : St) : Option (IntKind × Src) × Option (IntKind × Src) × Option (IntKind × Src) × Option (IntKind × Src) := (lookM st.mem 0 0, lookM st.mem 0 1, lookM st.mem 0 2, lookM st.mem 0 3)
theorem qal4 (a b c d : Int) : qal [a, b, c, d] = a + 18446744073709551616 * b + 340282366920938463463374607431768211456 * c + 6277101735386680763835789423207666416102355444464034512896 * d := by
  simp only [qal]; omega
theorem prod_bd {a b : Int} (ha : 0 ≤ a ∧ a < pI) (hb : 0 ≤ b ∧ b < pI) : 0 ≤ a * b ∧ a * b < 13407807926820848549984871491119855788235523322740973763876191939596368414310757992836696909921244801462672605190117106812798080191005388829112554944987136 := by
  refine ⟨Int.mul_nonneg ha.1 hb.1, ?_⟩
  have h1 : a * b ≤ pI * b := Int.mul_le_mul_of_nonneg_right (by omega) hb.1
  have h2 : pI * b ≤ pI * pI := Int.mul_le_mul_of_nonneg_left (by omega) (by decide)
  exact Int.lt_of_le_of_lt (Int.le_trans h1 h2) (by decide +kernel)
theorem rr_bd {a : Int} (ha : 0 ≤ a ∧ a < R256) : 0 ≤ a * 134799733323198995502561713907086292154532538166959272814710328655875 ∧ a * 134799733323198995502561713907086292154532538166959272814710328655875 < 13407807926820848549984871491119855788235523322740973763876191939596368414310757992836696909921244801462672605190117106812798080191005388829112554944987136 := by
  simp only [R256] at ha
  omega
theorem one_bd {a : Int} (ha : 0 ≤ a ∧ a < R256) : 0 ≤ a ∧ a < 13407807926820848549984871491119855788235523322740973763876191939596368414310757992836696909921244801462672605190117106812798080191005388829112554944987136 := by
  simp only [R256] at ha
  omega
theorem eqP {a : Int} {b : Int} (h : a = b) (hb : 0 ≤ b ∧ b < pI) : 0 ≤ a ∧ a < 115792089210356248762697446949407573530086143415290314195533631308867097853951 := by rw [h]; exact hb
theorem held4 {w : World} {b o : Nat} {c0 c1 c2 c3 S : Int} (h : qal [c0, c1, c2, c3] = S) (b0 : 0 ≤ c0 ∧ c0 < 18446744073709551616) (b1 : 0 ≤ c1 ∧ c1 < 18446744073709551616) (b2 : 0 ≤ c2 ∧ c2 < 18446744073709551616) (b3 : 0 ≤ c3 ∧ c3 < 18446744073709551616)
    (h0 : w.cell? ⟨b, o + 0, none⟩ = some (.int .u64 c0)) (h1 : w.cell? ⟨b, o + 1, none⟩ = some (.int .u64 c1)) (h2 : w.cell? ⟨b, o + 2, none⟩ = some (.int .u64 c2)) (h3 : w.cell? ⟨b, o + 3, none⟩ = some (.int .u64 c3)) : Held .u64 w b o (qds 4 S) := by
  have hd : qds 4 (qal [c0, c1, c2, c3]) = [c0, c1, c2, c3] := qds_qal [c0, c1, c2, c3] (by
    intro x hx
    simp only [List.mem_cons, List.not_mem_nil, or_false] at hx
    rcases hx with rfl | rfl | rfl | rfl <;> assumption)
  rw [← h, hd]
  intro i x hi
  match i, hi with
  | 0, hi => obtain rfl := Option.some.inj hi; exact h0
  | 1, hi => obtain rfl := Option.some.inj hi; exact h1
  | 2, hi => obtain rfl := Option.some.inj hi; exact h2
  | 3, hi => obtain rfl := Option.some.inj hi; exact h3
/-- The limbs of a number below 2^256, as the engine wants them. -/
theorem limbs {S : Int} (h0 : 0 ≤ S) (h1 : S < R256) : ∃ a0 a1 a2 a3 : Int, qds 4 S = [a0, a1, a2, a3] ∧ qal [a0, a1, a2, a3] = S ∧ ∀ x ∈ [a0, a1, a2, a3], 0 ≤ x ∧ x < 18446744073709551616 := by
  obtain ⟨a0, a1, a2, a3, hq, _, p0, p1, p2, p3⟩ := L4_open S
  refine ⟨a0, a1, a2, a3, hq, by rw [← hq, qal_L4 h0 h1], ?_⟩
  intro x hx
  simp only [List.mem_cons, List.not_mem_nil, or_false] at hx
  rcases hx with rfl | rfl | rfl | rfl <;> assumption

set_option maxRecDepth 1000000 in
theorem run_mul : ((Try.f61.body).bind fun c => (runC D0 3 4 c (init3 Try.f61.ntmps .u64 4)).map fun p => (p.1.n, p.1.defs, outs4 p.1)) =
    some (191, defs_mul, (some (.u64, .v 187), some (.u64, .v 188), some (.u64, .v 189), some (.u64, .v 190))) := by kernel_rfl

theorem p256Mul_any (b o b1 o1 b2 o2 : Nat) (x y : Fp) (w : World) (hb : b < w.heap.size) (hb1 : b1 < w.heap.size) (hb2 : b2 < w.heap.size) (hf : Free w b o 4) (h1 : Elt w b1 o1 x) (h2 : Elt w b2 o2 y) :
    Calls Try.prog 61 #[.pointer (some ⟨b, o, none⟩), .pointer (some ⟨b1, o1, none⟩), .pointer (some ⟨b2, o2, none⟩)] w fun e w' => e = .returned (.tuple #[]) ∧ Turned b o 4 w w' ∧ Elt w' b o (x * y) := by
  obtain ⟨a0, a1, a2, a3, hq, hv, hbd⟩ := limbs (mont_bd' x).1 (mont_bd' x).2
  obtain ⟨c0, c1, c2, c3, hq', hv', hbd'⟩ := limbs (mont_bd' y).1 (mont_bd' y).2
  unfold Elt at h1 h2
  rw [hq] at h1
  rw [hq'] at h2
  refine (eng3 S0 Try.func61 rfl rfl (by decide) outs4 _ run_mul b o b1 o1 b2 o2 [a0, a1, a2, a3] [c0, c1, c2, c3] rfl rfl hbd hbd' w hb hb1 hb2 hf h1 h2).mono ?_
  rintro e w' ⟨rfl, hT, ρ, hin, hin', hb', hd', st', hout, hcell⟩
  have E1 : ρ 0 + 18446744073709551616 * ρ 1 + 340282366920938463463374607431768211456 * ρ 2 + 6277101735386680763835789423207666416102355444464034512896 * ρ 3 = mont x := by
    rw [hin 0 (by decide), hin 1 (by decide), hin 2 (by decide), hin 3 (by decide), ← hv, qal4]; rfl
  have E2 : ρ 4 + 18446744073709551616 * ρ 5 + 340282366920938463463374607431768211456 * ρ 6 + 6277101735386680763835789423207666416102355444464034512896 * ρ 7 = mont y := by
    have k0 := hin' 0 (by decide); have k1 := hin' 1 (by decide); have k2 := hin' 2 (by decide); have k3 := hin' 3 (by decide)
    simp only [Nat.add_zero, Nat.reduceAdd] at k0 k1 k2 k3
    rw [k0, k1, k2, k3, ← hv', qal4]; rfl
  obtain ⟨q, e1, e2, e3⟩ := arith_mul ρ hb' hd' (by rw [E1, E2]; exact prod_bd (mont_bd x) (mont_bd y))
  rw [← qal4] at e1 e2 e3
  rw [E1, E2] at e1
  simp only [outs4, Prod.mk.injEq] at hout
  refine ⟨rfl, hT, held4 (mont_mul e2 e3 e1) (hb' _ (by decide)) (hb' _ (by decide)) (hb' _ (by decide)) (hb' _ (by decide)) ?_ ?_ ?_ ?_⟩
  · exact hcell 0 _ _ hout.1
  · exact hcell 1 _ _ hout.2.1
  · exact hcell 2 _ _ hout.2.2.1
  · exact hcell 3 _ _ hout.2.2.2

set_option maxRecDepth 1000000 in
theorem run_add : ((Try.f62.body).bind fun c => (runC D0 3 4 c (init3 Try.f62.ntmps .u64 4)).map fun p => (p.1.n, p.1.defs, outs4 p.1)) =
    some (30, defs_add, (some (.u64, .v 26), some (.u64, .v 27), some (.u64, .v 28), some (.u64, .v 29))) := by kernel_rfl

theorem p256Add_any (b o b1 o1 b2 o2 : Nat) (x y : Fp) (w : World) (hb : b < w.heap.size) (hb1 : b1 < w.heap.size) (hb2 : b2 < w.heap.size) (hf : Free w b o 4) (h1 : Elt w b1 o1 x) (h2 : Elt w b2 o2 y) :
    Calls Try.prog 62 #[.pointer (some ⟨b, o, none⟩), .pointer (some ⟨b1, o1, none⟩), .pointer (some ⟨b2, o2, none⟩)] w fun e w' => e = .returned (.tuple #[]) ∧ Turned b o 4 w w' ∧ Elt w' b o (x + y) := by
  obtain ⟨a0, a1, a2, a3, hq, hv, hbd⟩ := limbs (mont_bd' x).1 (mont_bd' x).2
  obtain ⟨c0, c1, c2, c3, hq', hv', hbd'⟩ := limbs (mont_bd' y).1 (mont_bd' y).2
  unfold Elt at h1 h2
  rw [hq] at h1
  rw [hq'] at h2
  refine (eng3 S0 Try.func62 rfl rfl (by decide) outs4 _ run_add b o b1 o1 b2 o2 [a0, a1, a2, a3] [c0, c1, c2, c3] rfl rfl hbd hbd' w hb hb1 hb2 hf h1 h2).mono ?_
  rintro e w' ⟨rfl, hT, ρ, hin, hin', hb', hd', st', hout, hcell⟩
  have E1 : ρ 0 + 18446744073709551616 * ρ 1 + 340282366920938463463374607431768211456 * ρ 2 + 6277101735386680763835789423207666416102355444464034512896 * ρ 3 = mont x := by
    rw [hin 0 (by decide), hin 1 (by decide), hin 2 (by decide), hin 3 (by decide), ← hv, qal4]; rfl
  have E2 : ρ 4 + 18446744073709551616 * ρ 5 + 340282366920938463463374607431768211456 * ρ 6 + 6277101735386680763835789423207666416102355444464034512896 * ρ 7 = mont y := by
    have k0 := hin' 0 (by decide); have k1 := hin' 1 (by decide); have k2 := hin' 2 (by decide); have k3 := hin' 3 (by decide)
    simp only [Nat.add_zero, Nat.reduceAdd] at k0 k1 k2 k3
    rw [k0, k1, k2, k3, ← hv', qal4]; rfl
  obtain ⟨q, e1, e2, e3⟩ := arith_add ρ hb' hd' (by rw [E1]; exact mont_bd x) (by rw [E2]; exact mont_bd y)
  rw [← qal4] at e1 e2 e3
  rw [E1, E2] at e1
  simp only [outs4, Prod.mk.injEq] at hout
  refine ⟨rfl, hT, held4 (mont_add e2 e3 e1) (hb' _ (by decide)) (hb' _ (by decide)) (hb' _ (by decide)) (hb' _ (by decide)) ?_ ?_ ?_ ?_⟩
  · exact hcell 0 _ _ hout.1
  · exact hcell 1 _ _ hout.2.1
  · exact hcell 2 _ _ hout.2.2.1
  · exact hcell 3 _ _ hout.2.2.2

set_option maxRecDepth 1000000 in
theorem run_sub : ((Try.f63.body).bind fun c => (runC D0 3 4 c (init3 Try.f63.ntmps .u64 4)).map fun p => (p.1.n, p.1.defs, outs4 p.1)) =
    some (27, defs_sub, (some (.u64, .v 17), some (.u64, .v 20), some (.u64, .v 22), some (.u64, .v 25))) := by kernel_rfl

theorem p256Sub_any (b o b1 o1 b2 o2 : Nat) (x y : Fp) (w : World) (hb : b < w.heap.size) (hb1 : b1 < w.heap.size) (hb2 : b2 < w.heap.size) (hf : Free w b o 4) (h1 : Elt w b1 o1 x) (h2 : Elt w b2 o2 y) :
    Calls Try.prog 63 #[.pointer (some ⟨b, o, none⟩), .pointer (some ⟨b1, o1, none⟩), .pointer (some ⟨b2, o2, none⟩)] w fun e w' => e = .returned (.tuple #[]) ∧ Turned b o 4 w w' ∧ Elt w' b o (x - y) := by
  obtain ⟨a0, a1, a2, a3, hq, hv, hbd⟩ := limbs (mont_bd' x).1 (mont_bd' x).2
  obtain ⟨c0, c1, c2, c3, hq', hv', hbd'⟩ := limbs (mont_bd' y).1 (mont_bd' y).2
  unfold Elt at h1 h2
  rw [hq] at h1
  rw [hq'] at h2
  refine (eng3 S0 Try.func63 rfl rfl (by decide) outs4 _ run_sub b o b1 o1 b2 o2 [a0, a1, a2, a3] [c0, c1, c2, c3] rfl rfl hbd hbd' w hb hb1 hb2 hf h1 h2).mono ?_
  rintro e w' ⟨rfl, hT, ρ, hin, hin', hb', hd', st', hout, hcell⟩
  have E1 : ρ 0 + 18446744073709551616 * ρ 1 + 340282366920938463463374607431768211456 * ρ 2 + 6277101735386680763835789423207666416102355444464034512896 * ρ 3 = mont x := by
    rw [hin 0 (by decide), hin 1 (by decide), hin 2 (by decide), hin 3 (by decide), ← hv, qal4]; rfl
  have E2 : ρ 4 + 18446744073709551616 * ρ 5 + 340282366920938463463374607431768211456 * ρ 6 + 6277101735386680763835789423207666416102355444464034512896 * ρ 7 = mont y := by
    have k0 := hin' 0 (by decide); have k1 := hin' 1 (by decide); have k2 := hin' 2 (by decide); have k3 := hin' 3 (by decide)
    simp only [Nat.add_zero, Nat.reduceAdd] at k0 k1 k2 k3
    rw [k0, k1, k2, k3, ← hv', qal4]; rfl
  obtain ⟨q, e1, e2, e3⟩ := arith_sub ρ hb' hd' (by rw [E1]; exact mont_bd x) (by rw [E2]; exact mont_bd y)
  rw [← qal4] at e1 e2 e3
  rw [E1, E2] at e1
  simp only [outs4, Prod.mk.injEq] at hout
  refine ⟨rfl, hT, held4 (mont_sub' e2 e3 e1) (hb' _ (by decide)) (hb' _ (by decide)) (hb' _ (by decide)) (hb' _ (by decide)) ?_ ?_ ?_ ?_⟩
  · exact hcell 0 _ _ hout.1
  · exact hcell 1 _ _ hout.2.1
  · exact hcell 2 _ _ hout.2.2.1
  · exact hcell 3 _ _ hout.2.2.2

set_option maxRecDepth 1000000 in
theorem run_sqr : ((Try.f60.body).bind fun c => (runC D0 2 4 c (init2 Try.f60.ntmps .u64 4)).map fun p => (p.1.n, p.1.defs, outs4 p.1)) =
    some (187, defs_sqr, (some (.u64, .v 183), some (.u64, .v 184), some (.u64, .v 185), some (.u64, .v 186))) := by kernel_rfl

theorem p256Square_any (b o b1 o1 : Nat) (x : Fp) (w : World) (hb : b < w.heap.size) (hb1 : b1 < w.heap.size) (hf : Free w b o 4) (h1 : Elt w b1 o1 x) :
    Calls Try.prog 60 #[.pointer (some ⟨b, o, none⟩), .pointer (some ⟨b1, o1, none⟩)] w fun e w' => e = .returned (.tuple #[]) ∧ Turned b o 4 w w' ∧ Elt w' b o (x * x) := by
  obtain ⟨a0, a1, a2, a3, hq, hv, hbd⟩ := limbs (mont_bd' x).1 (mont_bd' x).2
  try unfold Elt at h1
  rw [hq] at h1
  refine (eng2 S0 Try.func60 rfl rfl (by decide) outs4 _ run_sqr b o b1 o1 [a0, a1, a2, a3] rfl hbd w hb hb1 hf h1).mono ?_
  rintro e w' ⟨rfl, hT, ρ, hin, hb', hd', st', hout, hcell⟩
  have E1 : ρ 0 + 18446744073709551616 * ρ 1 + 340282366920938463463374607431768211456 * ρ 2 + 6277101735386680763835789423207666416102355444464034512896 * ρ 3 = mont x := by
    rw [hin 0 a0 rfl, hin 1 a1 rfl, hin 2 a2 rfl, hin 3 a3 rfl, ← hv, qal4]
  obtain ⟨q, e1, e2, e3⟩ := arith_sqr ρ hb' hd' (by rw [E1]; exact prod_bd (mont_bd x) (mont_bd x))
  rw [← qal4] at e1 e2 e3
  rw [E1] at e1
  simp only [outs4, Prod.mk.injEq] at hout
  refine ⟨rfl, hT, held4 (mont_mul e2 e3 e1) (hb' _ (by decide)) (hb' _ (by decide)) (hb' _ (by decide)) (hb' _ (by decide)) ?_ ?_ ?_ ?_⟩
  · exact hcell 0 _ _ hout.1
  · exact hcell 1 _ _ hout.2.1
  · exact hcell 2 _ _ hout.2.2.1
  · exact hcell 3 _ _ hout.2.2.2

set_option maxRecDepth 1000000 in
theorem run_fm : ((Try.f69.body).bind fun c => (runC D0 2 4 c (init2 Try.f69.ntmps .u64 4)).map fun p => (p.1.n, p.1.defs, outs4 p.1)) =
    some (103, defs_fm, (some (.u64, .v 99), some (.u64, .v 100), some (.u64, .v 101), some (.u64, .v 102))) := by kernel_rfl

theorem p256FromMontgomery_any (b o b1 o1 : Nat) (x : Fp) (w : World) (hb : b < w.heap.size) (hb1 : b1 < w.heap.size) (hf : Free w b o 4) (h1 : Elt w b1 o1 x) :
    Calls Try.prog 69 #[.pointer (some ⟨b, o, none⟩), .pointer (some ⟨b1, o1, none⟩)] w fun e w' => e = .returned (.tuple #[]) ∧ Turned b o 4 w w' ∧ Held .u64 w' b o (qds 4 (x.val : Int)) := by
  obtain ⟨a0, a1, a2, a3, hq, hv, hbd⟩ := limbs (mont_bd' x).1 (mont_bd' x).2
  try unfold Elt at h1
  rw [hq] at h1
  refine (eng2 S0 Try.func69 rfl rfl (by decide) outs4 _ run_fm b o b1 o1 [a0, a1, a2, a3] rfl hbd w hb hb1 hf h1).mono ?_
  rintro e w' ⟨rfl, hT, ρ, hin, hb', hd', st', hout, hcell⟩
  have E1 : ρ 0 + 18446744073709551616 * ρ 1 + 340282366920938463463374607431768211456 * ρ 2 + 6277101735386680763835789423207666416102355444464034512896 * ρ 3 = mont x := by
    rw [hin 0 a0 rfl, hin 1 a1 rfl, hin 2 a2 rfl, hin 3 a3 rfl, ← hv, qal4]
  obtain ⟨q, e1, e2, e3⟩ := arith_fm ρ hb' hd' (by rw [E1]; exact one_bd (mont_bd' x))
  rw [← qal4] at e1 e2 e3
  rw [E1] at e1
  simp only [outs4, Prod.mk.injEq] at hout
  refine ⟨rfl, hT, held4 (mont_from e2 e3 e1) (hb' _ (by decide)) (hb' _ (by decide)) (hb' _ (by decide)) (hb' _ (by decide)) ?_ ?_ ?_ ?_⟩
  · exact hcell 0 _ _ hout.1
  · exact hcell 1 _ _ hout.2.1
  · exact hcell 2 _ _ hout.2.2.1
  · exact hcell 3 _ _ hout.2.2.2

set_option maxRecDepth 1000000 in
theorem run_tm : ((Try.f59.body).bind fun c => (runC D0 2 4 c (init2 Try.f59.ntmps .u64 4)).map fun p => (p.1.n, p.1.defs, outs4 p.1)) =
    some (184, defs_tm, (some (.u64, .v 180), some (.u64, .v 181), some (.u64, .v 182), some (.u64, .v 183))) := by kernel_rfl

theorem p256ToMontgomery_any (b o b1 o1 : Nat) (A : Int) (hA0 : 0 ≤ A) (hA1 : A < R256) (w : World) (hb : b < w.heap.size) (hb1 : b1 < w.heap.size) (hf : Free w b o 4) (h1 : Held .u64 w b1 o1 (qds 4 A)) :
    Calls Try.prog 59 #[.pointer (some ⟨b, o, none⟩), .pointer (some ⟨b1, o1, none⟩)] w fun e w' => e = .returned (.tuple #[]) ∧ Turned b o 4 w w' ∧ Elt w' b o (zf A) := by
  obtain ⟨a0, a1, a2, a3, hq, hv, hbd⟩ := limbs (And.intro hA0 hA1).1 (And.intro hA0 hA1).2
  try unfold Elt at h1
  rw [hq] at h1
  refine (eng2 S0 Try.func59 rfl rfl (by decide) outs4 _ run_tm b o b1 o1 [a0, a1, a2, a3] rfl hbd w hb hb1 hf h1).mono ?_
  rintro e w' ⟨rfl, hT, ρ, hin, hb', hd', st', hout, hcell⟩
  have E1 : ρ 0 + 18446744073709551616 * ρ 1 + 340282366920938463463374607431768211456 * ρ 2 + 6277101735386680763835789423207666416102355444464034512896 * ρ 3 = A := by
    rw [hin 0 a0 rfl, hin 1 a1 rfl, hin 2 a2 rfl, hin 3 a3 rfl, ← hv, qal4]
  obtain ⟨q, e1, e2, e3⟩ := arith_tm ρ hb' hd' (by rw [E1]; exact rr_bd ⟨hA0, hA1⟩)
  rw [← qal4] at e1 e2 e3
  rw [E1] at e1
  simp only [outs4, Prod.mk.injEq] at hout
  refine ⟨rfl, hT, held4 (mont_to e2 e3 e1) (hb' _ (by decide)) (hb' _ (by decide)) (hb' _ (by decide)) (hb' _ (by decide)) ?_ ?_ ?_ ?_⟩
  · exact hcell 0 _ _ hout.1
  · exact hcell 1 _ _ hout.2.1
  · exact hcell 2 _ _ hout.2.2.1
  · exact hcell 3 _ _ hout.2.2.2

set_option maxRecDepth 1000000 in
theorem run_sel0 : ((Try.f64.body).bind fun c => (runC D0 3 4 c (init4 Try.f64.ntmps 0 4)).map fun p => (p.1.n, p.1.defs, outs4 p.1)) =
    some (12, defs_sel0, (some (.u64, .v 8), some (.u64, .v 9), some (.u64, .v 10), some (.u64, .v 11))) := by kernel_rfl

theorem p256Selectznz_0 (b o b1 o1 b2 o2 : Nat) (x y : Fp) (w : World) (hb : b < w.heap.size) (hb1 : b1 < w.heap.size) (hb2 : b2 < w.heap.size) (hf : Free w b o 4) (h1 : Elt w b1 o1 x) (h2 : Elt w b2 o2 y) :
    Calls Try.prog 64 #[.pointer (some ⟨b, o, none⟩), .int .u64 0, .pointer (some ⟨b1, o1, none⟩), .pointer (some ⟨b2, o2, none⟩)] w fun e w' => e = .returned (.tuple #[]) ∧ Turned b o 4 w w' ∧ Elt w' b o x := by
  obtain ⟨a0, a1, a2, a3, hq, hv, hbd⟩ := limbs (mont_bd' x).1 (mont_bd' x).2
  obtain ⟨c0, c1, c2, c3, hq', hv', hbd'⟩ := limbs (mont_bd' y).1 (mont_bd' y).2
  unfold Elt at h1 h2
  rw [hq] at h1
  rw [hq'] at h2
  refine (eng4 S0 Try.func64 rfl rfl (by decide) outs4 _ run_sel0 b o b1 o1 b2 o2 [a0, a1, a2, a3] [c0, c1, c2, c3] rfl rfl hbd hbd' w hb hb1 hb2 hf h1 h2).mono ?_
  rintro e w' ⟨rfl, hT, ρ, hin, hin', hb', hd', st', hout, hcell⟩
  obtain ⟨s0, s1, s2, s3⟩ := arith_sel0 ρ hd'
  have E : qal [ρ 8, ρ 9, ρ 10, ρ 11] = mont x := by
    rw [s0, s1, s2, s3]
    rw [hin 0 (by decide), hin 1 (by decide), hin 2 (by decide), hin 3 (by decide), ← hv]; rfl
  simp only [outs4, Prod.mk.injEq] at hout
  refine ⟨rfl, hT, held4 E (hb' _ (by decide)) (hb' _ (by decide)) (hb' _ (by decide)) (hb' _ (by decide)) ?_ ?_ ?_ ?_⟩
  · exact hcell 0 _ _ hout.1
  · exact hcell 1 _ _ hout.2.1
  · exact hcell 2 _ _ hout.2.2.1
  · exact hcell 3 _ _ hout.2.2.2

set_option maxRecDepth 1000000 in
theorem run_sel1 : ((Try.f64.body).bind fun c => (runC D0 3 4 c (init4 Try.f64.ntmps 1 4)).map fun p => (p.1.n, p.1.defs, outs4 p.1)) =
    some (12, defs_sel1, (some (.u64, .v 8), some (.u64, .v 9), some (.u64, .v 10), some (.u64, .v 11))) := by kernel_rfl

theorem p256Selectznz_1 (b o b1 o1 b2 o2 : Nat) (x y : Fp) (w : World) (hb : b < w.heap.size) (hb1 : b1 < w.heap.size) (hb2 : b2 < w.heap.size) (hf : Free w b o 4) (h1 : Elt w b1 o1 x) (h2 : Elt w b2 o2 y) :
    Calls Try.prog 64 #[.pointer (some ⟨b, o, none⟩), .int .u64 1, .pointer (some ⟨b1, o1, none⟩), .pointer (some ⟨b2, o2, none⟩)] w fun e w' => e = .returned (.tuple #[]) ∧ Turned b o 4 w w' ∧ Elt w' b o y := by
  obtain ⟨a0, a1, a2, a3, hq, hv, hbd⟩ := limbs (mont_bd' x).1 (mont_bd' x).2
  obtain ⟨c0, c1, c2, c3, hq', hv', hbd'⟩ := limbs (mont_bd' y).1 (mont_bd' y).2
  unfold Elt at h1 h2
  rw [hq] at h1
  rw [hq'] at h2
  refine (eng4 S0 Try.func64 rfl rfl (by decide) outs4 _ run_sel1 b o b1 o1 b2 o2 [a0, a1, a2, a3] [c0, c1, c2, c3] rfl rfl hbd hbd' w hb hb1 hb2 hf h1 h2).mono ?_
  rintro e w' ⟨rfl, hT, ρ, hin, hin', hb', hd', st', hout, hcell⟩
  obtain ⟨s0, s1, s2, s3⟩ := arith_sel1 ρ hd'
  have E : qal [ρ 8, ρ 9, ρ 10, ρ 11] = mont y := by
    rw [s0, s1, s2, s3]
    have k0 := hin' 0 (by decide); have k1 := hin' 1 (by decide); have k2 := hin' 2 (by decide); have k3 := hin' 3 (by decide)
    simp only [Nat.add_zero, Nat.reduceAdd] at k0 k1 k2 k3
    rw [k0, k1, k2, k3, ← hv']; rfl
  simp only [outs4, Prod.mk.injEq] at hout
  refine ⟨rfl, hT, held4 E (hb' _ (by decide)) (hb' _ (by decide)) (hb' _ (by decide)) (hb' _ (by decide)) ?_ ?_ ?_ ?_⟩
  · exact hcell 0 _ _ hout.1
  · exact hcell 1 _ _ hout.2.1
  · exact hcell 2 _ _ hout.2.2.1
  · exact hcell 3 _ _ hout.2.2.2

set_option maxRecDepth 1000000 in
theorem run_one : ((Try.f41.body).bind fun c => (runC D0 1 4 c (init1 Try.f41.ntmps)).map fun p => (p.1.n, p.1.defs, outs4 p.1)) =
    some (0, [], (some (.u64, .c 1), some (.u64, .c 18446744069414584320), some (.u64, .c 18446744073709551615), some (.u64, .c 4294967294))) := by kernel_rfl

theorem p256SetOne_any (b o : Nat) (w : World) (hb : b < w.heap.size) (hf : Free w b o 4) :
    Calls Try.prog 41 #[.pointer (some ⟨b, o, none⟩)] w fun e w' => e = .returned (.tuple #[]) ∧ Turned b o 4 w w' ∧ Elt w' b o 1 := by
  refine (eng1 S0 Try.func41 rfl rfl (by decide) outs4 _ run_one b o w hb hf).mono ?_
  rintro e w' ⟨rfl, hT, ρ, hb', hd', st', hout, hcell⟩
  simp only [outs4, Prod.mk.injEq] at hout
  refine ⟨rfl, hT, held4 (one_q.trans mont_one.symm) (by decide) (by decide) (by decide) (by decide) ?_ ?_ ?_ ?_⟩
  · exact hcell 0 _ _ hout.1
  · exact hcell 1 _ _ hout.2.1
  · exact hcell 2 _ _ hout.2.2.1
  · exact hcell 3 _ _ hout.2.2.2

def outs32 (st : St) : List (Option (IntKind × Src)) := (List.range 32).map fun i => lookM st.mem 0 i
set_option maxRecDepth 1000000 in
theorem run_tb : ((Try.f70.body).bind fun c => (runC D0 2 32 c (init2 Try.f70.ntmps .u64 4)).map fun p => (p.1.n, p.1.defs, outs32 p.1)) =
    some (92, defs_tb, [some (.u8, .v 5), some (.u8, .v 8), some (.u8, .v 11), some (.u8, .v 14), some (.u8, .v 17), some (.u8, .v 20), some (.u8, .v 23), some (.u8, .v 25), some (.u8, .v 27), some (.u8, .v 30), some (.u8, .v 33), some (.u8, .v 36), some (.u8, .v 39), some (.u8, .v 42), some (.u8, .v 45), some (.u8, .v 47), some (.u8, .v 49), some (.u8, .v 52), some (.u8, .v 55), some (.u8, .v 58), some (.u8, .v 61), some (.u8, .v 64), some (.u8, .v 67), some (.u8, .v 69), some (.u8, .v 71), some (.u8, .v 74), some (.u8, .v 77), some (.u8, .v 80), some (.u8, .v 83), some (.u8, .v 86), some (.u8, .v 89), some (.u8, .v 91)]) := by kernel_rfl

theorem p256ToBytes_any (b o b1 o1 : Nat) (A : Int) (hA0 : 0 ≤ A) (hA1 : A < R256) (w : World) (hb : b < w.heap.size) (hb1 : b1 < w.heap.size) (hf : Free w b o 32) (h1 : Held .u64 w b1 o1 (qds 4 A)) :
    Calls Try.prog 70 #[.pointer (some ⟨b, o, none⟩), .pointer (some ⟨b1, o1, none⟩)] w fun e w' => e = .returned (.tuple #[]) ∧ Turned b o 32 w w' ∧ Held .u8 w' b o (bds 32 A) := by
  obtain ⟨a0, a1, a2, a3, hq, hv, hbd⟩ := limbs hA0 hA1
  rw [hq] at h1
  refine (eng2 S0 Try.func70 rfl rfl (by decide) outs32 _ run_tb b o b1 o1 [a0, a1, a2, a3] rfl hbd w hb hb1 hf h1).mono ?_
  rintro e w' ⟨rfl, hT, ρ, hin, hb', hd', st', hout, hcell⟩
  have E1 : qal [ρ 0, ρ 1, ρ 2, ρ 3] = A := by
    rw [hin 0 a0 rfl, hin 1 a1 rfl, hin 2 a2 rfl, hin 3 a3 rfl, ← hv]
  have E := arith_tb ρ hb' hd'
  rw [E1] at E
  refine ⟨rfl, hT, ?_⟩
  rw [E]
  intro i x hi
  have hlt := (List.getElem?_eq_some_iff.1 hi).1
  have hlt : i < 32 := hlt
  have hl : (outs32 st')[i]? = some (lookM st'.mem 0 i) := by
    unfold outs32
    rw [List.getElem?_map, List.getElem?_range hlt]
    rfl
  rw [hout] at hl
  have hi32 : i = 0 ∨ i = 1 ∨ i = 2 ∨ i = 3 ∨ i = 4 ∨ i = 5 ∨ i = 6 ∨ i = 7 ∨ i = 8 ∨ i = 9 ∨ i = 10 ∨ i = 11 ∨ i = 12 ∨ i = 13 ∨ i = 14 ∨ i = 15 ∨ i = 16 ∨ i = 17 ∨ i = 18 ∨ i = 19 ∨ i = 20 ∨ i = 21 ∨ i = 22 ∨ i = 23 ∨ i = 24 ∨ i = 25 ∨ i = 26 ∨ i = 27 ∨ i = 28 ∨ i = 29 ∨ i = 30 ∨ i = 31 := by omega
  rcases hi32 with rfl | rfl | rfl | rfl | rfl | rfl | rfl | rfl | rfl | rfl | rfl | rfl | rfl | rfl | rfl | rfl | rfl | rfl | rfl | rfl | rfl | rfl | rfl | rfl | rfl | rfl | rfl | rfl | rfl | rfl | rfl | rfl
  all_goals (obtain rfl := Option.some.inj hi; exact hcell _ _ _ (Option.some.inj hl).symm)

set_option maxRecDepth 1000000 in
theorem run_fb : ((Try.f58.body).bind fun c => (runC D0 2 4 c (init2 Try.f58.ntmps .u8 32)).map fun p => (p.1.n, p.1.defs, outs4 p.1)) =
    some (120, defs_fb, (some (.u64, .v 95), some (.u64, .v 103), some (.u64, .v 111), some (.u64, .v 119))) := by kernel_rfl

theorem p256FromBytes_any (b o b1 o1 : Nat) (A : Int) (hA0 : 0 ≤ A) (hA1 : A < R256) (w : World) (hb : b < w.heap.size) (hb1 : b1 < w.heap.size) (hf : Free w b o 4) (h1 : Held .u8 w b1 o1 (bds 32 A)) :
    Calls Try.prog 58 #[.pointer (some ⟨b, o, none⟩), .pointer (some ⟨b1, o1, none⟩)] w fun e w' => e = .returned (.tuple #[]) ∧ Turned b o 4 w w' ∧ Held .u64 w' b o (qds 4 A) := by
  have hl := bds_length 32 A
  have hbd := bds_bd 32 A
  have hv := bal_B32 hA0 hA1
  generalize bds 32 A = l at hl hbd hv h1
  refine (eng2 S0 Try.func58 rfl rfl (by decide) outs4 _ run_fb b o b1 o1 l hl (fun x hx => by have := hbd x hx; omega) w hb hb1 hf h1).mono ?_
  rintro e w' ⟨rfl, hT, ρ, hin, hb', hd', st', hout, hcell⟩
  have hin' : ∀ i, i < 32 → l[i]? = some (ρ i) := fun i hi => by
    have := List.getElem?_eq_getElem (l := l) (i := i) (by omega)
    rw [this, hin i _ this]
  have E := arith_fb ρ (fun i hi => hbd _ (List.mem_of_getElem? (hin' i hi))) hd'
  have El : [ρ 0, ρ 1, ρ 2, ρ 3, ρ 4, ρ 5, ρ 6, ρ 7, ρ 8, ρ 9, ρ 10, ρ 11, ρ 12, ρ 13, ρ 14, ρ 15, ρ 16, ρ 17, ρ 18, ρ 19, ρ 20, ρ 21, ρ 22, ρ 23, ρ 24, ρ 25, ρ 26, ρ 27, ρ 28, ρ 29, ρ 30, ρ 31] = l := by
    apply List.ext_getElem?
    intro i
    by_cases hi : i < 32
    · rw [hin' i hi]
      have hi32 : i = 0 ∨ i = 1 ∨ i = 2 ∨ i = 3 ∨ i = 4 ∨ i = 5 ∨ i = 6 ∨ i = 7 ∨ i = 8 ∨ i = 9 ∨ i = 10 ∨ i = 11 ∨ i = 12 ∨ i = 13 ∨ i = 14 ∨ i = 15 ∨ i = 16 ∨ i = 17 ∨ i = 18 ∨ i = 19 ∨ i = 20 ∨ i = 21 ∨ i = 22 ∨ i = 23 ∨ i = 24 ∨ i = 25 ∨ i = 26 ∨ i = 27 ∨ i = 28 ∨ i = 29 ∨ i = 30 ∨ i = 31 := by omega
      rcases hi32 with rfl | rfl | rfl | rfl | rfl | rfl | rfl | rfl | rfl | rfl | rfl | rfl | rfl | rfl | rfl | rfl | rfl | rfl | rfl | rfl | rfl | rfl | rfl | rfl | rfl | rfl | rfl | rfl | rfl | rfl | rfl | rfl <;> rfl
    · rw [List.getElem?_eq_none (by simp; omega), List.getElem?_eq_none (by omega)]
  rw [El, hv] at E
  simp only [outs4, Prod.mk.injEq] at hout
  refine ⟨rfl, hT, held4 E (hb' _ (by decide)) (hb' _ (by decide)) (hb' _ (by decide)) (hb' _ (by decide)) ?_ ?_ ?_ ?_⟩
  · exact hcell 0 _ _ hout.1
  · exact hcell 1 _ _ hout.2.1
  · exact hcell 2 _ _ hout.2.2.1
  · exact hcell 3 _ _ hout.2.2.2
end Go.Proofs.Ytgdjmgcolipcnaa
