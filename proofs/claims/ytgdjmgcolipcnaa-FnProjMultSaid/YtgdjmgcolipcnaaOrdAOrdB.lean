/-
  What is proved here: what the package's functions on the order's numbers return.
  Conditions: those of each theorem.
-/
import Derived.Test.YtgdjmgcolipcnaaProg
import Derived.Test.YtgdjmgcolipcnaaKit
import Derived.Test.YtgdjmgcolipcnaaNumRegMem
import Derived.WalkKit
import Derived.WalkSpells
import Derived.Outline
import Derived.Handy
import Derived.ProofKit
import Derived.Deep.QuietTactic
import Derived.BigQuiet
import Derived.Lib.Hide
import Derived.Laws.BitsAllLaws
import Derived.OpenShut
namespace Go.Proofs.Ytgdjmgcolipcnaa
open Go.RowKit
set_option linter.unusedSimpArgs false
set_option linter.unusedVariables false

theorem or_join (k : Nat) (c a b : Int) (hc : c = ((2 ^ k : Nat) : Int)) (hk : c ≤ 72057594037927936) (a0 : 0 ≤ a) (a1 : a < c) (b0 : 0 ≤ b) (b1 : b < 256) :
    bits BinOp.or IntKind.u64 a (IntKind.u64.wrap (IntKind.u64.wrap b * c)) = a + b * c := by
  have h1 : IntKind.u64.wrap b = b := by rw [IntKind.wrap_u64]; omega
  have hbc0 : 0 ≤ b * c := Int.mul_nonneg b0 (by omega)
  have hbc1 : b * c ≤ 255 * c := Int.mul_le_mul_of_nonneg_right (by omega) (by omega)
  have h2 : IntKind.u64.wrap (b * c) = b * c := by rw [IntKind.wrap_u64]; omega
  rw [h1, h2, u64_or a (b * c) a0 (by omega) hbc0 (by omega)]
  have hm : (b * c).toNat % 2 ^ k = 0 := by
    have : (b * c).toNat = b.toNat * 2 ^ k := by
      subst hc
      rw [Int.toNat_mul b0 (by omega), Int.toNat_natCast]
    rw [this]; exact Nat.mul_mod_left _ _
  rw [Nat.or_comm, nat_join k (b * c).toNat a.toNat hm (by omega)]
  omega

set_option maxHeartbeats 4000000 in
set_option maxRecDepth 100000 in
theorem beUint64_any (b off cap n : Nat) (x0 x1 x2 x3 x4 x5 x6 x7 : Int) (hn : 8 ≤ n) (hc : n ≤ cap) (hb : ∀ x ∈ [x0, x1, x2, x3, x4, x5, x6, x7], 0 ≤ x ∧ x < 256) (w : World)
    (h0 : w.cell? ⟨b, off, none⟩ = some (.int .u8 x0)) (h1 : w.cell? ⟨b, off + 1, none⟩ = some (.int .u8 x1)) (h2 : w.cell? ⟨b, off + 2, none⟩ = some (.int .u8 x2)) (h3 : w.cell? ⟨b, off + 3, none⟩ = some (.int .u8 x3))
    (h4 : w.cell? ⟨b, off + 4, none⟩ = some (.int .u8 x4)) (h5 : w.cell? ⟨b, off + 5, none⟩ = some (.int .u8 x5)) (h6 : w.cell? ⟨b, off + 6, none⟩ = some (.int .u8 x6)) (h7 : w.cell? ⟨b, off + 7, none⟩ = some (.int .u8 x7)) :
    Calls Try.prog 43 #[.slice (some ⟨b, off, none⟩) n cap] w fun e w' =>
      e = .returned (.int .u64 (x7 + x6 * 256 + x5 * 65536 + x4 * 16777216 + x3 * 4294967296 + x2 * 1099511627776 + x1 * 281474976710656 + x0 * 72057594037927936)) ∧ ∃ k, w' = w.drewN k := by
  have H := Lib.hid hb; clear hb
  go_enter Try.func43, Try.ntmps43
  go_wp2_with (go_quiet (fail))
  go_ret
  refine ⟨?_, ⟨_, rfl⟩⟩
  have hb := H.out
  obtain ⟨p0, q0⟩ := hb x0 (by simp)
  obtain ⟨p1, q1⟩ := hb x1 (by simp)
  obtain ⟨p2, q2⟩ := hb x2 (by simp)
  obtain ⟨p3, q3⟩ := hb x3 (by simp)
  obtain ⟨p4, q4⟩ := hb x4 (by simp)
  obtain ⟨p5, q5⟩ := hb x5 (by simp)
  obtain ⟨p6, q6⟩ := hb x6 (by simp)
  obtain ⟨p7, q7⟩ := hb x7 (by simp)
  have e0 : IntKind.u64.wrap x7 = x7 := by rw [IntKind.wrap_u64]; omega
  refine congrArg (fun v => Ending.returned (Value.int .u64 v)) ?_
  rw [e0]
  rw [or_join 8 256 x7 x6 (by decide) (by decide) p7 (by omega) p6 q6]
  rw [or_join 16 65536 _ x5 (by decide) (by decide) (by omega) (by omega) p5 q5]
  rw [or_join 24 16777216 _ x4 (by decide) (by decide) (by omega) (by omega) p4 q4]
  rw [or_join 32 4294967296 _ x3 (by decide) (by decide) (by omega) (by omega) p3 q3]
  rw [or_join 40 1099511627776 _ x2 (by decide) (by decide) (by omega) (by omega) p2 q2]
  rw [or_join 48 281474976710656 _ x1 (by decide) (by decide) (by omega) (by omega) p1 q1]
  rw [or_join 56 72057594037927936 _ x0 (by decide) (by decide) (by omega) (by omega) p0 q0]
end Go.Proofs.Ytgdjmgcolipcnaa
/-
  What is proved here: what the package's reading and writing of a number modulo the order returns.
  Conditions: those of each theorem.
-/
namespace Go.Proofs.Ytgdjmgcolipcnaa
open Go.RowKit
set_option linter.unusedSimpArgs false
set_option linter.unusedVariables false
def ordRest (a : Int) : Int := if a < ordN then a else a - ordN

theorem sub64_zero (x y : Int) (w : World) : (callFunc 44 #[.int .u64 x, .int .u64 y, .int .u64 0]).run Try.prog w = .ok (.value (.tuple #[.int .u64 (sbd x y 0), .int .u64 (sbc x y 0)])) w := by
  rw [run_callFunc_extern Try.func44 (by kernel_rfl) (by kernel_rfl) (by kernel_rfl) (e := (Extern.MathBitsCarry.rows[1]).2) (by kernel_rfl)]
  rfl
theorem sub64_on (x y p q r : Int) (w : World) : (callFunc 44 #[.int .u64 x, .int .u64 y, .int .u64 (sbc p q r)]).run Try.prog w = .ok (.value (.tuple #[.int .u64 (sbd x y (sbc p q r)), .int .u64 (sbc x y (sbc p q r))])) w := by
  rw [run_callFunc_extern Try.func44 (by kernel_rfl) (by kernel_rfl) (by kernel_rfl) (e := (Extern.MathBitsCarry.rows[1]).2) (by kernel_rfl)]
  rcases sbc_bit p q r with e | e <;> rw [e] <;> rfl

/-- The word of eight bytes from off on, the highest first. -/
def be8 (l : Nat → Int) (off : Nat) : Int := l (off + 7) + l (off + 6) * 256 + l (off + 5) * 65536 + l (off + 4) * 16777216 + l (off + 3) * 4294967296 + l (off + 2) * 1099511627776 + l (off + 1) * 281474976710656 + l (off + 0) * 72057594037927936
theorem be8_bd (l : Nat → Int) (hl : ∀ j, 0 ≤ l j ∧ l j < 256) (off : Nat) : 0 ≤ be8 l off ∧ be8 l off < 18446744073709551616 := by
  have h0 := hl (off + 0); have h1 := hl (off + 1); have h2 := hl (off + 2); have h3 := hl (off + 3); have h4 := hl (off + 4); have h5 := hl (off + 5); have h6 := hl (off + 6); have h7 := hl (off + 7)
  unfold be8; omega
theorem be8_any (b off cap n : Nat) (l : Nat → Int) (hn : 8 ≤ n) (hc : n ≤ cap) (hl : ∀ j, 0 ≤ l j ∧ l j < 256) (w : World) (h : ∀ j, j < 8 → w.cell? ⟨b, off + j, none⟩ = some (.int .u8 (l (off + j)))) :
    Calls Try.prog 43 #[.slice (some ⟨b, off, none⟩) n cap] w fun e w' => e = .returned (.int .u64 (be8 l off)) ∧ ∃ k, w' = w.drewN k :=
  beUint64_any b off cap n _ _ _ _ _ _ _ _ hn hc (by
    intro x hx
    simp only [List.mem_cons, List.not_mem_nil, or_false] at hx
    rcases hx with rfl | rfl | rfl | rfl | rfl | rfl | rfl | rfl <;> exact hl _) w (h 0 (by omega)) (h 1 (by omega)) (h 2 (by omega)) (h 3 (by omega)) (h 4 (by omega)) (h 5 (by omega)) (h 6 (by omega)) (h 7 (by omega))

/-- One word of the conditional subtraction: its mask is 0, or all ones. -/
theorem sel_keep (s t : Int) (hs : 0 ≤ s ∧ s < 18446744073709551616) (ht : 0 ≤ t ∧ t < 18446744073709551616) : bits .xor .u64 s (bits .and .u64 (bits .xor .u64 t s) 0) = s := by
  rw [u64_xor t s ht.1 ht.2 hs.1 hs.2, u64_and _ 0 (by omega) (by
    have : t.toNat ^^^ s.toNat < 2 ^ 64 := Nat.xor_lt_two_pow (by omega) (by omega)
    omega) (by decide) (by decide)]
  rw [u64_xor s _ hs.1 hs.2 (by omega) (by simp)]
  simp
  omega
theorem sel_take (s t : Int) (hs : 0 ≤ s ∧ s < 18446744073709551616) (ht : 0 ≤ t ∧ t < 18446744073709551616) : bits .xor .u64 s (bits .and .u64 (bits .xor .u64 t s) 18446744073709551615) = t := by
  have hx : t.toNat ^^^ s.toNat < 2 ^ 64 := Nat.xor_lt_two_pow (by omega) (by omega)
  rw [u64_xor t s ht.1 ht.2 hs.1 hs.2, u64_and _ 18446744073709551615 (by omega) (by omega) (by decide) (by decide)]
  have e : ((((t.toNat ^^^ s.toNat : Nat) : Int).toNat &&& (18446744073709551615 : Int).toNat : Nat) : Int) = ((t.toNat ^^^ s.toNat : Nat) : Int) := by
    rw [Int.toNat_natCast, show (18446744073709551615 : Int).toNat = 2 ^ 64 - 1 from rfl, Nat.and_two_pow_sub_one_eq_mod, Nat.mod_eq_of_lt hx]
  rw [e, u64_xor s _ hs.1 hs.2 (by omega) (by omega), Int.toNat_natCast, Nat.xor_comm t.toNat, ← Nat.xor_assoc, Nat.xor_self, Nat.zero_xor]
  omega

/-- The conditional subtraction of the order. -/
theorem ord_sub (s0 s1 s2 s3 : Int) (h0 : 0 ≤ s0 ∧ s0 < 18446744073709551616) (h1 : 0 ≤ s1 ∧ s1 < 18446744073709551616) (h2 : 0 ≤ s2 ∧ s2 < 18446744073709551616) (h3 : 0 ≤ s3 ∧ s3 < 18446744073709551616)
    (b0 b1 b2 b3 t0 t1 t2 t3 m : Int) (e0 : sbc s0 17562291160714782033 0 = b0) (e1 : sbc s1 13611842547513532036 b0 = b1) (e2 : sbc s2 18446744073709551615 b1 = b2) (e3 : sbc s3 18446744069414584320 b2 = b3)
    (d0 : sbd s0 17562291160714782033 0 = t0) (d1 : sbd s1 13611842547513532036 b0 = t1) (d2 : sbd s2 18446744073709551615 b1 = t2) (d3 : sbd s3 18446744069414584320 b2 = t3) (hm : IntKind.u64.wrap (b3 - 1) = m) :
    [bits .xor .u64 s0 (bits .and .u64 (bits .xor .u64 t0 s0) m), bits .xor .u64 s1 (bits .and .u64 (bits .xor .u64 t1 s1) m), bits .xor .u64 s2 (bits .and .u64 (bits .xor .u64 t2 s2) m), bits .xor .u64 s3 (bits .and .u64 (bits .xor .u64 t3 s3) m)] = qds 4 (ordRest (qal [s0, s1, s2, s3])) := by
  have k0 := sb_spec s0 17562291160714782033 0 h0 (by decide) (.inl rfl)
  rw [e0, d0] at k0
  have k1 := sb_spec s1 13611842547513532036 b0 h1 (by decide) k0.2.2
  rw [e1, d1] at k1
  have k2 := sb_spec s2 18446744073709551615 b1 h2 (by decide) k1.2.2
  rw [e2, d2] at k2
  have k3 := sb_spec s3 18446744069414584320 b2 h3 (by decide) k2.2.2
  rw [e3, d3] at k3
  obtain ⟨q0, r0, _⟩ := k0
  obtain ⟨q1, r1, _⟩ := k1
  obtain ⟨q2, r2, _⟩ := k2
  obtain ⟨q3, r3, hb⟩ := k3
  have hv : qal [t0, t1, t2, t3] = qal [s0, s1, s2, s3] - ordN + R256 * b3 := by
    simp only [qal, ordN, R256]; omega
  have hs := qal_bd4 [s0, s1, s2, s3] rfl (by
    intro x hx
    simp only [List.mem_cons, List.not_mem_nil, or_false] at hx
    rcases hx with rfl | rfl | rfl | rfl <;> assumption)
  have ht4 : ∀ x ∈ [t0, t1, t2, t3], 0 ≤ x ∧ x < 18446744073709551616 := by
    intro x hx
    simp only [List.mem_cons, List.not_mem_nil, or_false] at hx
    rcases hx with rfl | rfl | rfl | rfl <;> assumption
  have ht := qal_bd4 [t0, t1, t2, t3] rfl ht4
  have hs4 : ∀ x ∈ [s0, s1, s2, s3], 0 ≤ x ∧ x < 18446744073709551616 := by
    intro x hx
    simp only [List.mem_cons, List.not_mem_nil, or_false] at hx
    rcases hx with rfl | rfl | rfl | rfl <;> assumption
  rcases hb with hb | hb
  · have em : m = 18446744073709551615 := by rw [← hm, hb]; rfl
    rw [em, sel_take s0 t0 h0 r0, sel_take s1 t1 h1 r1, sel_take s2 t2 h2 r2, sel_take s3 t3 h3 r3]
    have hv' : qal [t0, t1, t2, t3] = qal [s0, s1, s2, s3] - ordN := by rw [hv, hb]; omega
    rw [ordRest, if_neg (by omega), ← hv']
    exact (qds_qal _ ht4).symm
  · have em : m = 0 := by rw [← hm, hb]; rfl
    rw [em, sel_keep s0 t0 h0 r0, sel_keep s1 t1 h1 r1, sel_keep s2 t2 h2 r2, sel_keep s3 t3 h3 r3]
    rw [hb] at hv
    have hlt : qal [s0, s1, s2, s3] < ordN := by
      have := ht.2
      simp only [R256] at *
      omega
    rw [ordRest, if_pos hlt]
    exact (qds_qal _ hs4).symm

theorem be8_qal (l : Nat → Int) : qal [be8 l 24, be8 l 16, be8 l 8, be8 l 0] = be ((List.range 32).map l) := by
  have e : List.range 32 = [0, 1, 2, 3, 4, 5, 6, 7, 8, 9, 10, 11, 12, 13, 14, 15, 16, 17, 18, 19, 20, 21, 22, 23, 24, 25, 26, 27, 28, 29, 30, 31] := rfl
  rw [e]
  simp only [List.map_cons, List.map_nil, be, List.reverse_cons, List.reverse_nil, List.nil_append, List.cons_append, bal, qal, be8, Nat.reduceAdd]
  omega

set_option maxHeartbeats 2000000 in
set_option maxRecDepth 100000 in
theorem ord_SetBytes (b c cap : Nat) (hcap : 32 ≤ cap) (hne : Hid (¬ b = c)) (l : Nat → Int) (hl : Hid (∀ j, 0 ≤ l j ∧ l j < 256)) (w : World)
    (hs0 : w.cell? ⟨b, 0, none⟩ = some (.int .u64 0)) (hs1 : w.cell? ⟨b, 1, none⟩ = some (.int .u64 0)) (hs2 : w.cell? ⟨b, 2, none⟩ = some (.int .u64 0)) (hs3 : w.cell? ⟨b, 3, none⟩ = some (.int .u64 0)) (hfz : ∀ o, w.frozen? ⟨b, o, none⟩ = false)
    (hc : Hid (∀ j, j < 32 → w.cell? ⟨c, j, none⟩ = some (.int .u8 (l j)))) :
    Calls Try.prog 26 #[.pointer (some ⟨b, 0, none⟩), .slice (some ⟨c, 0, none⟩) 32 cap] w fun e w' => e = .returned (.tuple #[.pointer (some ⟨b, 0, none⟩), .nilIface]) ∧
      (∃ r0 r1 r2 r3, [r0, r1, r2, r3] = qds 4 (ordRest (be ((List.range 32).map l))) ∧ (w'.cell? ⟨b, 0, none⟩ = some (.int .u64 r0) ∧ w'.cell? ⟨b, 1, none⟩ = some (.int .u64 r1) ∧ w'.cell? ⟨b, 2, none⟩ = some (.int .u64 r2) ∧ w'.cell? ⟨b, 3, none⟩ = some (.int .u64 r3))) ∧ Away b w w' := by
  go_enter Try.func26, Try.ntmps26
  go_wp2_with (first | (refine wp_quiet_tail (l := [_, _, _, _, _, _, _]) 6 (by kernel_rfl) (by kernel_rfl) ?_; simp only [List.take_succ_cons, List.take_zero, List.drop_succ_cons, List.drop_zero]; (repeat (first | go_big_quiet_skip | (go_big_quiet_want; go_big_quiet_op; first | go_big_quiet_on | go_big_quiet_call ((go_at_call 43; first | ((with_reducible refine Calls.quiet_of (be8_any c 24 (cap - 24) 8 l (by omega) (by omega) hl.out _ ?_)); intro j hj; simp only [cell_dn, cell_far hne.out]; exact hc.out _ (by omega)) | ((with_reducible refine quiet_after (be8_any c 16 (cap - 16) 16 l (by omega) (by omega) hl.out _ ?_)); intro j hj; simp only [cell_dn, cell_far hne.out]; exact hc.out _ (by omega)) | ((with_reducible refine quiet_after (be8_any c 8 (cap - 8) 24 l (by omega) (by omega) hl.out _ ?_)); intro j hj; simp only [cell_dn, cell_far hne.out]; exact hc.out _ (by omega)) | ((with_reducible refine quiet_after (be8_any c 0 (cap - 0) 32 l (by omega) (by omega) hl.out _ ?_)); intro j hj; simp only [cell_dn, cell_far hne.out]; exact hc.out _ (by omega))))))); refine wpQuiet_nil ?_; intro _ hw'; obtain ⟨nq, hw''⟩ := hw'; subst hw'') | (simp only [sub64_zero, sub64_on]))
  have hv : [_, _, _, _] = _ := ord_sub (be8 l 24) (be8 l 16) (be8 l 8) (be8 l 0) (be8_bd l hl.out 24) (be8_bd l hl.out 16) (be8_bd l hl.out 8) (be8_bd l hl.out 0) _ _ _ _ _ _ _ _ _ rfl rfl rfl rfl rfl rfl rfl rfl rfl
  rw [be8_qal] at hv
  generalize IntKind.u64.wrap (sbc (be8 l 0) 18446744069414584320 (sbc (be8 l 8) 18446744073709551615 (sbc (be8 l 16) 13611842547513532036 (sbc (be8 l 24) 17562291160714782033 0))) - 1) = m at hv ⊢
  generalize sbd (be8 l 0) 18446744069414584320 (sbc (be8 l 8) 18446744073709551615 (sbc (be8 l 16) 13611842547513532036 (sbc (be8 l 24) 17562291160714782033 0))) = t3 at hv ⊢
  generalize sbd (be8 l 8) 18446744073709551615 (sbc (be8 l 16) 13611842547513532036 (sbc (be8 l 24) 17562291160714782033 0)) = t2 at hv ⊢
  generalize sbd (be8 l 16) 13611842547513532036 (sbc (be8 l 24) 17562291160714782033 0) = t1 at hv ⊢
  generalize sbd (be8 l 24) 17562291160714782033 0 = t0 at hv ⊢
  generalize sbc (be8 l 0) 18446744069414584320 (sbc (be8 l 8) 18446744073709551615 (sbc (be8 l 16) 13611842547513532036 (sbc (be8 l 24) 17562291160714782033 0))) = b3 at hv ⊢
  generalize sbc (be8 l 8) 18446744073709551615 (sbc (be8 l 16) 13611842547513532036 (sbc (be8 l 24) 17562291160714782033 0)) = b2 at hv ⊢
  generalize sbc (be8 l 16) 13611842547513532036 (sbc (be8 l 24) 17562291160714782033 0) = b1 at hv ⊢
  generalize sbc (be8 l 24) 17562291160714782033 0 = b0 at hv ⊢
  generalize be8 l 24 = s0 at hv ⊢
  generalize be8 l 16 = s1 at hv ⊢
  generalize be8 l 8 = s2 at hv ⊢
  generalize be8 l 0 = s3 at hv ⊢
  have HH := Lib.hid hv
  clear hv
  go_wp2_with (refine wp_quiet_tail (l := [_, _, _, _, _, _, _, _, _, _, _, _, _, _, _, _]) 15 (by kernel_rfl) (by kernel_rfl) ?_; simp only [List.take_succ_cons, List.take_zero, List.drop_succ_cons, List.drop_zero]; (repeat (first | go_big_quiet_skip | (go_big_quiet_want; go_big_quiet_op; first | go_big_quiet_on))); refine wpQuiet_nil ?_; intro _ hw'; obtain ⟨nq, hw''⟩ := hw'; subst hw'')
  refine bodyPost_ret (v := ?vr) (by simp [results, Try.results26, go_sem]; rfl) rfl ⟨rfl, ⟨_, _, _, _, HH.out, ?_⟩, ?_⟩
  · simp [cell_set, cell_set_isSome, hs0, hs1, hs2, hs3, cell_dn]
  · repeat (first | (with_reducible exact Away.refl _ _) | (with_reducible apply Away.drewN) | (with_reducible apply Away.drew) | (with_reducible apply Away.setCell))
end Go.Proofs.Ytgdjmgcolipcnaa
