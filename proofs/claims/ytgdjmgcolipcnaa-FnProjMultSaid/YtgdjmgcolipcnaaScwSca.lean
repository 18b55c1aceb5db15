/-
  What is proved here: what stands between the calls that sum a multiple of a point by windows of five bits.
  Conditions: those of each theorem.
-/
import Derived.Test.YtgdjmgcolipcnaaProg
import Derived.Test.YtgdjmgcolipcnaaHptPta
import Derived.Test.YtgdjmgcolipcnaaMulTabMlt
import Derived.Test.YtgdjmgcolipcnaaBoRsRsv
import Derived.Test.YtgdjmgcolipcnaaAscAssGrp
import Derived.ProofKit
import Derived.Test.YtgdjmgcolipcnaaOrdAOrdB
import Derived.WalkKit
import Derived.WalkSpells
import Derived.Outline
import Derived.OpenShut
import Derived.LoopTactic
import Derived.Lib.Hide
namespace Go.Proofs.Ytgdjmgcolipcnaa
open Go Go.RowKit Ecp
set_option linter.unusedSimpArgs false
set_option linter.unusedVariables false

/-! The window's digit and sign as numbers. -/
def bd5 (n : Nat) : Nat := if n < 32 then (n + 1) / 2 else 32 - (n + 1) / 2
def bs5 (n : Nat) : Bool := decide (¬ n < 32)
theorem bd5_le (n : Nat) (h : n < 64) : bd5 n ≤ 16 := by unfold bd5; split <;> omega
theorem bo5d_nat (n : Nat) (h : n < 64) : bo5d (n : Int) = (bd5 n : Int) := by
  unfold bo5d bd5
  by_cases c : n < 32
  · rw [if_pos c, if_pos (by omega)]; omega
  · rw [if_neg c, if_neg (by omega)]; omega
theorem bo5s_nat (n : Nat) : bo5s (n : Int) = if bs5 n then 1 else 0 := by
  unfold bo5s bs5
  by_cases c : n < 32
  · rw [if_pos (by omega), if_neg (by simp [c])]
  · rw [if_neg (by omega), if_pos (by simp [c])]
theorem and63 (v : Nat) : bits BinOp.and IntKind.u64 (v : Int) 63 = ((v % 64 : Nat) : Int) := by
  have e : (BitVec.ofInt 64 (v : Int) &&& BitVec.ofInt 64 63).toNat = v % 64 := by
    rw [BitVec.toNat_and]
    have h1 : (BitVec.ofInt 64 63).toNat = 63 := by decide
    have h2 : (BitVec.ofInt 64 (v : Int)).toNat = v % 2 ^ 64 := by simp [BitVec.toNat_ofInt]
    rw [h1, h2, show (63 : Nat) = 2 ^ 6 - 1 from rfl, Nat.and_two_pow_sub_one_eq_mod]
    omega
  show IntKind.u64.wrap (((BitVec.ofInt 64 (v : Int) &&& BitVec.ofInt 64 63).toNat : Nat) : Int) = _
  rw [e]
  simp [IntKind.wrap, IntKind.signed, IntKind.bits]
  omega
theorem Booth_nat (n : Nat) (h : n < 64) (S : Int) (hS : S = if bs5 n then 1 else 0) (w : World) : Calls Try.prog 27 #[.int .u64 (n : Int)] w fun e w' => e = .returned (.tuple #[.int .u8 (bd5 n : Int), .int .i64 S]) ∧ w' = w := by
  rw [hS, ← bo5d_nat n h, ← bo5s_nat n]
  refine (boothW5_any (n : Int) (by omega) (by omega) w).mono ?_
  rintro e w' ⟨rfl, h2⟩
  exact ⟨rfl, h2.symm⟩
theorem Booth_low (n : Nat) (h : n < 4) (w : World) : Calls Try.prog 27 #[.int .u64 (n : Int)] w fun e w' => e = .returned (.tuple #[.int .u8 (bd5 n : Int), .int .i64 0]) ∧ w' = w := by
  refine Booth_nat n (by omega) 0 ?_ w
  unfold bs5
  rw [if_neg (by simp; omega)]
theorem Booth_and (v : Nat) (S : Int) (hS : S = if bs5 (v % 64) then 1 else 0) (w : World) : Calls Try.prog 27 #[.int .u64 (bits BinOp.and IntKind.u64 (v : Int) 63)] w fun e w' => e = .returned (.tuple #[.int .u8 (bd5 (v % 64) : Int), .int .i64 S]) ∧ w' = w := by
  rw [and63]
  exact Booth_nat _ (Nat.mod_lt _ (by decide)) S hS w

/-! The multiples. -/
/-- The windows' number behind k rounds. -/
def uK (s k : Nat) : Nat := 2 * s / 2 ^ (255 - 5 * k)
theorem uK_next (s k : Nat) (hk : k < 51) : uK s (k + 1) / 32 = uK s k := by
  unfold uK
  rw [show (32 : Nat) = 2 ^ 5 from rfl, Nat.div_div_eq_div_mul, ← Nat.pow_add]
  congr 2
  omega
theorem uK_rsh (s i k : Nat) (h : i + 5 * k = 254) : s / 2 ^ i = uK s k := by
  unfold uK
  rw [show 255 - 5 * k = i + 1 by omega, Nat.pow_succ, Nat.mul_comm (2 ^ i) 2, ← Nat.div_div_eq_div_mul, Nat.mul_div_cancel_left _ (by decide)]
theorem uK_last (s : Nat) : uK s 51 = 2 * s := by unfold uK; simp
theorem bV_last (s : Nat) : bV (uK s 51) = s := by rw [uK_last]; unfold bV; omega
theorem uK_first (s : Nat) (h : s < 2 ^ 256) : uK s 0 < 4 := by
  unfold uK
  rw [show 255 - 5 * 0 = 255 from rfl]
  omega
def dbl5 (R : Pt) : Pt := psum (psum (psum (psum (psum R R) (psum R R)) (psum (psum R R) (psum R R))) (psum (psum (psum R R) (psum R R)) (psum (psum R R) (psum R R)))) (psum (psum (psum (psum R R) (psum R R)) (psum (psum R R) (psum R R))) (psum (psum (psum R R) (psum R R)) (psum (psum R R) (psum R R))))
theorem dbl5_pm (m : Nat) (p : Pt) : dbl5 (pm m p) = pm (32 * m) p := pm_32 m p
/-- A round. -/
theorem sc_round {p : Pt} (hp : p.on) (s k v : Nat) (hk : k < 51) (hv : v % 64 = uK s (k + 1) % 64) : psum (dbl5 (pm (bV (uK s k)) p)) (if bs5 (v % 64) then pneg (pm (bd5 (v % 64)) p) else pm (bd5 (v % 64)) p) = pm (bV (uK s (k + 1))) p := by
  rw [hv, dbl5_pm, ← uK_next s k hk]
  unfold bs5 bd5
  by_cases c : uK s (k + 1) % 64 < 32
  · rw [if_pos c, if_neg (by simp [c])]
    exact pm_booth_pos hp c
  · rw [if_neg c, if_pos (by simp [c])]
    exact pm_booth_neg hp c

/-- What stands between the calls: b holds R, tp holds T, the table holds the multiples of q, sb the number's words. -/
structure ScW (w wr : World) (b sb tb tp s0 s1 s2 s3 : Nat) (q R T : Pt) : Prop where
  trn : Turned b 0 12 w wr
  lb : b < w.heap.size
  ns : w.heap.size ≤ sb
  nt : w.heap.size ≤ tb
  np : w.heap.size ≤ tp
  dst : sb ≠ tp
  dtt : tb ≠ tp
  p : PtAt wr b R
  t : PtAt wr tp T
  lsb : sb < wr.heap.size
  ltb : tb < wr.heap.size
  c0 : wr.cell? ⟨sb, 0, none⟩ = some (.int .u64 (s0 : Int))
  c1 : wr.cell? ⟨sb, 1, none⟩ = some (.int .u64 (s1 : Int))
  c2 : wr.cell? ⟨sb, 2, none⟩ = some (.int .u64 (s2 : Int))
  c3 : wr.cell? ⟨sb, 3, none⟩ = some (.int .u64 (s3 : Int))
  tab : TabS wr tb 16 q
section
variable {w wr w' : World} {b sb tb tp s0 s1 s2 s3 : Nat} {q R T : Pt}
theorem ScW.turn_b (h : ScW w wr b sb tb tp s0 s1 s2 s3 q R T) {R' : Pt} (hT : Turned b 0 12 wr w') (hP : PtAt w' b R') : ScW w w' b sb tb tp s0 s1 s2 s3 q R' T := by
  have h1 := h.lb
  have h2 := h.ns
  have h3 := h.nt
  have h4 := h.np
  have cl : ∀ o, w'.cell? ⟨sb, o, none⟩ = wr.cell? ⟨sb, o, none⟩ := fun o => hT.away.cell h.lsb (by omega) o
  exact ⟨h.trn.trans hT, h.lb, h.ns, h.nt, h.np, h.dst, h.dtt, hP, h.t.far hT hP (by omega), hT.lt h.lsb, hT.lt h.ltb, (cl 0).trans h.c0, (cl 1).trans h.c1, (cl 2).trans h.c2, (cl 3).trans h.c3, fun j hj => (h.tab j hj).far hT h.ltb (.inl (by omega))⟩
theorem ScW.turn_t (h : ScW w wr b sb tb tp s0 s1 s2 s3 q R T) {T' : Pt} (hT : Turned tp 0 12 wr w') (hP : PtAt w' tp T') : ScW w w' b sb tb tp s0 s1 s2 s3 q R T' := by
  have h1 := h.lb
  have h4 := h.np
  have cl : ∀ o, w'.cell? ⟨sb, o, none⟩ = wr.cell? ⟨sb, o, none⟩ := fun o => hT.away.cell h.lsb h.dst o
  exact ⟨h.trn.new hT h.np h.lb, h.lb, h.ns, h.nt, h.np, h.dst, h.dtt, h.p.far hT hP (by omega), hP, hT.lt h.lsb, hT.lt h.ltb, (cl 0).trans h.c0, (cl 1).trans h.c1, (cl 2).trans h.c2, (cl 3).trans h.c3, fun j hj => (h.tab j hj).far hT h.ltb (.inl h.dtt)⟩
theorem ScW.ext (h : ScW w wr b sb tb tp s0 s1 s2 s3 q R T) (hE : Ext wr w') : ScW w w' b sb tb tp s0 s1 s2 s3 q R T := by
  have cl : ∀ o, w'.cell? ⟨sb, o, none⟩ = wr.cell? ⟨sb, o, none⟩ := fun o => by obtain ⟨g, rfl⟩ := hE; exact cell?_ext _ _ _ _ h.lsb
  exact ⟨Ext.turned h.trn h.lb hE, h.lb, h.ns, h.nt, h.np, h.dst, h.dtt, hE.pt h.p, hE.pt h.t, hE.lt h.lsb, hE.lt h.ltb, (cl 0).trans h.c0, (cl 1).trans h.c1, (cl 2).trans h.c2, (cl 3).trans h.c3, fun j hj => hE.hp h.ltb (h.tab j hj)⟩
theorem sc_dbl (h : ScW w wr b sb tb tp s0 s1 s2 s3 q R T) : Calls Try.prog 31 #[.pointer (some ⟨b, 0, none⟩), .pointer (some ⟨b, 0, none⟩)] wr fun e w' => e = .returned (.pointer (some ⟨b, 0, none⟩)) ∧ ScW w w' b sb tb tp s0 s1 s2 s3 q (psum R R) T := by
  refine (DblPt b b R R wr h.p h.p (.inl rfl)).mono ?_
  rintro e w' ⟨rfl, hT, hP⟩
  exact ⟨rfl, h.turn_b hT hP⟩
theorem sc_add (h : ScW w wr b sb tb tp s0 s1 s2 s3 q R T) : Calls Try.prog 33 #[.pointer (some ⟨b, 0, none⟩), .pointer (some ⟨b, 0, none⟩), .pointer (some ⟨tp, 0, none⟩)] wr fun e w' => e = .returned (.pointer (some ⟨b, 0, none⟩)) ∧ ScW w w' b sb tb tp s0 s1 s2 s3 q (psum R T) T := by
  have h1 := h.lb
  have h4 := h.np
  refine (AddPt b b tp R R T wr h.p h.p h.t (.inl rfl) (.inr (by omega))).mono ?_
  rintro e w' ⟨rfl, hT, hP⟩
  exact ⟨rfl, h.turn_b hT hP⟩
theorem sc_neg (h : ScW w wr b sb tb tp s0 s1 s2 s3 q R T) (one : Bool) (S : Int) (hS : S = if one then 1 else 0) : Calls Try.prog 32 #[.pointer (some ⟨tp, 0, none⟩), .int .i64 S] wr fun e w' => e = .returned (.pointer (some ⟨tp, 0, none⟩)) ∧ ScW w w' b sb tb tp s0 s1 s2 s3 q R (if one then pneg T else T) := by
  subst hS
  refine (NegPt tp T one wr h.t).mono ?_
  rintro e w' ⟨rfl, hT, hP⟩
  exact ⟨rfl, h.turn_t hT hP⟩
theorem sc_sel (h : ScW w wr b sb tb tp s0 s1 s2 s3 q R T) (n : Nat) (hn : n ≤ 16) : Calls Try.prog 30 #[.pointer (some ⟨tb, 0, none⟩), .pointer (some ⟨tp, 0, none⟩), .int .u8 (n : Int)] wr fun e w' => e = .returned (.tuple #[]) ∧ ScW w w' b sb tb tp s0 s1 s2 s3 q R (pm n q) := by
  refine (TSelect_any tb tp n hn q wr h.ltb h.t.lt h.dtt h.t.2.1 h.tab).mono ?_
  rintro e w' ⟨rfl, hS⟩
  have hr := hS.r
  rw [if_pos hn] at hr
  exact ⟨rfl, h.turn_t hS.trn ⟨hS.lc, hS.free, hr⟩⟩
theorem sc_rsh (h : ScW w wr b sb tb tp s0 s1 s2 s3 q R T) (b0 : s0 < 2 ^ 64) (b1 : s1 < 2 ^ 64) (b2 : s2 < 2 ^ 64) (b3 : s3 < 2 ^ 64) (i : Int) (n : Nat) (hi : i = (n : Int)) (hn : n ≤ 255) : Calls Try.prog 28 #[.pointer (some ⟨sb, 0, none⟩), .int .i64 i] wr fun e w' => e = .returned (.int .u64 ((num4 s0 s1 s2 s3 / 2 ^ n % 2 ^ 64 : Nat) : Int)) ∧ ScW w w' b sb tb tp s0 s1 s2 s3 q R T := by
  subst hi
  refine (Rsh_any sb s0 s1 s2 s3 n b0 b1 b2 b3 hn wr h.c0 h.c1 h.c2 h.c3).mono ?_
  rintro e w' ⟨rfl, hE⟩
  exact ⟨rfl, h.ext hE⟩
end
end Go.Proofs.Ytgdjmgcolipcnaa
/-
  What is proved here: what the package's multiple of a point holds.
  Conditions: those of each theorem.
-/
namespace Go.Proofs.Ytgdjmgcolipcnaa
open Go Go.RowKit Ecp
set_option linter.unusedSimpArgs false
set_option linter.unusedVariables false
theorem four_nat {r0 r1 r2 r3 v : Int} (h : [r0, r1, r2, r3] = qds 4 v) : ∃ t0 t1 t2 t3 : Nat, r0 = (t0 : Int) ∧ r1 = (t1 : Int) ∧ r2 = (t2 : Int) ∧ r3 = (t3 : Int) ∧ t0 < 2 ^ 64 ∧ t1 < 2 ^ 64 ∧ t2 < 2 ^ 64 ∧ t3 < 2 ^ 64 := by
  have hb : ∀ x ∈ qds 4 v, 0 ≤ x ∧ x < 18446744073709551616 := qds_bd 4 v
  rw [← h] at hb
  have a0 := hb r0 (by simp)
  have a1 := hb r1 (by simp)
  have a2 := hb r2 (by simp)
  have a3 := hb r3 (by simp)
  exact ⟨r0.toNat, r1.toNat, r2.toNat, r3.toNat, by omega, by omega, by omega, by omega, by omega, by omega, by omega, by omega⟩
theorem num4_qal (t0 t1 t2 t3 : Nat) : qal [(t0 : Int), (t1 : Int), (t2 : Int), (t3 : Int)] = (num4 t0 t1 t2 t3 : Int) := by
  unfold num4
  simp only [qal]
  omega
/-- What the four words hold. -/
theorem num4_of {t0 t1 t2 t3 V : Nat} (hV : (V : Int) < R256) (h : [(t0 : Int), (t1 : Int), (t2 : Int), (t3 : Int)] = qds 4 (ordRest (V : Int))) : num4 t0 t1 t2 t3 = V % nN ∧ num4 t0 t1 t2 t3 < 2 ^ 256 := by
  have hn : ordN = (nN : Int) := by decide +kernel
  have h2 : R256 < 2 * ordN := by decide +kernel
  have h3 : (nN : Nat) < 2 ^ 256 := by decide +kernel
  have hr : 0 ≤ ordRest (V : Int) ∧ ordRest (V : Int) < R256 ∧ ordRest (V : Int) = ((V % nN : Nat) : Int) := by
    unfold ordRest
    split
    · rename_i c
      have c' : V < nN := by rw [hn] at c; omega
      rw [Nat.mod_eq_of_lt c']
      exact ⟨by omega, hV, rfl⟩
    · rename_i c
      have c' : ¬ V < nN := by rw [hn] at c; omega
      have e : V % nN = V - nN := by
        rw [Nat.mod_eq_sub_mod (by omega), Nat.mod_eq_of_lt (by rw [hn] at h2; omega)]
      rw [e, hn]
      exact ⟨by omega, by omega, by omega⟩
  have e := qal_L4 hr.1 hr.2.1
  rw [← h, num4_qal, hr.2.2] at e
  have e' : num4 t0 t1 t2 t3 = V % nN := by omega
  refine ⟨e', ?_⟩
  have := Nat.mod_lt V (show 0 < nN by decide)
  omega
theorem Rsh_first (b s0 s1 s2 s3 : Nat) (b0 : s0 < 2 ^ 64) (b1 : s1 < 2 ^ 64) (b2 : s2 < 2 ^ 64) (b3 : s3 < 2 ^ 64) (hs : num4 s0 s1 s2 s3 < 2 ^ 256) (w : World) (q0 : w.cell? ⟨b, 0, none⟩ = some (.int .u64 (s0 : Int))) (q1 : w.cell? ⟨b, 1, none⟩ = some (.int .u64 (s1 : Int))) (q2 : w.cell? ⟨b, 2, none⟩ = some (.int .u64 (s2 : Int))) (q3 : w.cell? ⟨b, 3, none⟩ = some (.int .u64 (s3 : Int))) :
    Calls Try.prog 28 #[.pointer (some ⟨b, 0, none⟩), .int .i64 254] w fun e w' => e = .returned (.int .u64 ((uK (num4 s0 s1 s2 s3) 0 : Nat) : Int)) ∧ Ext w w' := by
  have h := Rsh_any b s0 s1 s2 s3 254 b0 b1 b2 b3 (by decide) w q0 q1 q2 q3
  have hu := uK_first _ hs
  rw [uK_rsh _ 254 0 (by decide), Nat.mod_eq_of_lt (Nat.lt_of_lt_of_le hu (by decide))] at h
  exact h
theorem cell_gr {u v : World} (h : Ext u v) {b o : Nat} (hb : b < u.heap.size) : v.cell? ⟨b, o, none⟩ = u.cell? ⟨b, o, none⟩ := by
  obtain ⟨g, rfl⟩ := h
  exact cell?_ext _ _ _ _ hb
/-- What stands ahead of the loop. -/
theorem sc_start {w w1 w2 w4 w5 w6 : World} {b qb sz t0 t1 t2 t3 n : Nat} {R q : Pt} {ob : Obj} (hb : PtAt w b R) (hz : sz = w.heap.size) (hl1 : sz < w1.heap.size) (hE1 : Ext w w1)
    (k0 : w1.cell? ⟨sz, 0, none⟩ = some (.int .u64 (t0 : Int))) (k1 : w1.cell? ⟨sz, 1, none⟩ = some (.int .u64 (t1 : Int))) (k2 : w1.cell? ⟨sz, 2, none⟩ = some (.int .u64 (t2 : Int))) (k3 : w1.cell? ⟨sz, 3, none⟩ = some (.int .u64 (t3 : Int)))
    (hE2 : Ext w1 w2) (h4 : TabW (w2.alloc ob) w4 w2.heap.size qb 16 q) (hn : n ≤ 16) (h5 : SelW w4 w5 w2.heap.size b 16 n q) (hE6 : Ext w5 w6) (hP : PtAt w6 w5.heap.size .far) :
    ScW w w6 b sz w2.heap.size w5.heap.size t0 t1 t2 t3 q (pm n q) .far := by
  subst hz
  have hE12 : Ext w w2 := hE1.trans hE2
  have hl2 : w.heap.size < w2.heap.size := hE2.lt hl1
  have hE4 : Ext w w4 := Turned.ext_of_new (hE12.trans (Ext.al _ _)) h4.trn (Nat.le_of_lt hl2)
  have hb4 : b < w4.heap.size := hE4.lt hb.1
  have hs3 : w2.heap.size < (w2.alloc ob).heap.size := h4.ht
  have hs4 := h4.trn.size
  have hs5 := h5.trn.size
  have hbw := hb.1
  have hT5 : Turned b 0 12 w w5 := (Ext.turned (Turned.refl b 0 12 w) hb.1 hE4).trans h5.trn
  have hr := h5.r
  rw [if_pos hn] at hr
  have hl4 : w.heap.size < w4.heap.size := by omega
  have cl : ∀ o, w6.cell? ⟨w.heap.size, o, none⟩ = w1.cell? ⟨w.heap.size, o, none⟩ := fun o => by
    rw [cell_gr hE6 (by omega), h5.trn.away.cell hl4 (by omega), h4.trn.away.cell (by omega) (by omega), cell_gr (Ext.al w2 ob) hl2, cell_gr hE2 hl1]
  exact ⟨Ext.turned hT5 hb.1 hE6, hb.1, Nat.le_refl _, Nat.le_of_lt hl2, by omega, by omega, by omega, hE6.pt ⟨h5.lc, h5.free, hr⟩, hP, hE6.lt (by omega), hE6.lt h5.lt, (cl 0).trans k0, (cl 1).trans k1, (cl 2).trans k2, (cl 3).trans k3, fun j hj => hE6.hp h5.lt (h5.tab j hj)⟩
/-- What the world is ahead of the table. -/
theorem sc_ahead {w w1 w2 : World} {b qb : Nat} {R q : Pt} {ob ob2 : Obj} (hb : PtAt w b R) (hq : PtAt w qb q) (hA : Away w.heap.size (w.alloc ob) w1) (hE2 : Ext w1 w2) :
    qb < w2.heap.size ∧ qb < (w2.alloc ob2).heap.size ∧ Hp (w2.alloc ob2) qb 0 q ∧ Ext w w2 ∧ b < w2.heap.size ∧ w.heap.size < w1.heap.size := by
  have hE1 : Ext w w1 := Ext.away (Ext.al w ob) (Nat.le_refl _) hA
  have hE : Ext w w2 := hE1.trans hE2
  have h1 : qb < w2.heap.size := hE.lt hq.1
  have h2 := hA.2.2.2.1
  rw [size_alloc] at h2
  exact ⟨h1, size_al h1 _, (hE.trans (Ext.al w2 ob2)).hp hq.1 hq.2.2, hE, hE.lt hb.1, by omega⟩
theorem sc_mid {w w2 w4 : World} {b qb : Nat} {R q : Pt} {ob : Obj} (hb : PtAt w b R) (hE : Ext w w2) (h4 : TabW (w2.alloc ob) w4 w2.heap.size qb 16 q) : b < w4.heap.size ∧ w2.heap.size ≠ b ∧ Free w4 b 0 12 := by
  have hE4 : Ext w w4 := Turned.ext_of_new (hE.trans (Ext.al _ _)) h4.trn hE.below.size
  have h1 := hE.lt hb.1
  exact ⟨hE4.lt hb.1, by omega, hE4.free hb.1 hb.2.1⟩
set_option maxHeartbeats 2000000 in
set_option maxRecDepth 100000 in
theorem ScalarMult_any (b qb c cap : Nat) (hcap : 32 ≤ cap) (l : Nat → Int) (hl : ∀ j, 0 ≤ l j ∧ l j < 256) (V : Nat) (hV : be ((List.range 32).map l) = (V : Int)) (hVR : (V : Int) < R256) (R q : Pt) (w : World) (hb : PtAt w b R) (hq : PtAt w qb q) (hne : qb ≠ b) (hcw : c < w.heap.size) (hcb : c ≠ b)
    (hc : ∀ j, j < 32 → w.cell? ⟨c, j, none⟩ = some (.int .u8 (l j))) :
    Calls Try.prog 17 #[.pointer (some ⟨b, 0, none⟩), .pointer (some ⟨qb, 0, none⟩), .slice (some ⟨c, 0, none⟩) 32 cap] w fun e w' => e = .returned (.tuple #[.pointer (some ⟨b, 0, none⟩), .nilIface]) ∧ Turned b 0 12 w w' ∧ PtAt w' b (pm V q) := by
  have HL := Lib.hid hl
  have HC := Lib.hid (And.intro hc hcw)
  have hnc : Hid (¬ w.heap.size = c) := Lib.hid (by omega)
  have HV := Lib.hid (And.intro hV hVR)
  have HB := Lib.hid (And.intro hb (And.intro hq hne))
  clear hl hc hcw hV hVR hb hq hne
  go_enter Try.func17, Try.ntmps17
  go_wp2_with (first
    | (go_at_call 26; (with_reducible refine (ord_SetBytes w.heap.size c cap hcap hnc l HL _ ?_ ?_ ?_ ?_ ?_ ?_).mono ?_); (· simp [go_sem]); (· simp [go_sem]); (· simp [go_sem]); (· simp [go_sem]); (· intro o; simp [go_sem]); (· exact Lib.hid (fun j hj => by rw [cell_al1 HC.out.2]; exact HC.out.1 j hj)); rintro e w1 ⟨rfl, ⟨r0, r1, r2, r3, hr, d0, d1, d2, d3⟩, hA⟩; obtain ⟨t0, t1, t2, t3, e0, e1, e2, e3, c0, c1, c2, c3⟩ := four_nat hr; subst e0 e1 e2 e3; rw [HV.out.1] at hr; have hN := num4_of HV.out.2 hr; have H1 := Lib.hid (And.intro hN (And.intro hA (And.intro c0 (And.intro c1 (And.intro c2 c3))))); have D1 := Lib.hid (And.intro d0 (And.intro d1 (And.intro d2 d3))); clear hr hN hA c0 c1 c2 c3 d0 d1 d2 d3)
    | (go_at_call 28; (with_reducible refine (Rsh_first w.heap.size t0 t1 t2 t3 H1.out.2.2.1 H1.out.2.2.2.1 H1.out.2.2.2.2.1 H1.out.2.2.2.2.2 H1.out.1.2 w1 D1.out.1 D1.out.2.1 D1.out.2.2.1 D1.out.2.2.2).mono ?_); rintro e w2 ⟨rfl, hE2⟩; have H2 := Lib.hid hE2; clear hE2)
    | (go_at_call 27; (with_reducible refine (Booth_low (uK (num4 t0 t1 t2 t3) 0) (uK_first _ H1.out.1.2) _).mono ?_); rintro e w3 ⟨rfl, hw3⟩; subst hw3; have HQ := Lib.hid (sc_ahead (ob2 := .cells ztab 76) HB.out.1 HB.out.2.1 H1.out.2.1 H2.out))
    | (refine wpList_alloc_row rfl 76 _ rfl zeroTab ?_)
    | (go_at_call 29; go_must (refine (Compute_any w3.heap.size qb q (w3.alloc (.cells ztab 76)) (by simp [size_alloc]) HQ.out.2.1 (Nat.ne_of_lt HQ.out.1) (free_ztab w3) HQ.out.2.2.1).mono ?_); rintro e w4 ⟨rfl, hW⟩; have H4 := Lib.hid hW; clear hW; have HM := Lib.hid (sc_mid HB.out.1 HQ.out.2.2.2.1 H4.out))
    | (go_at_call 30; go_must (refine (TSelect_any w3.heap.size b (bd5 (uK (num4 t0 t1 t2 t3) 0)) (bd5_le _ (Nat.lt_trans (uK_first _ H1.out.1.2) (by decide))) q w4 H4.out.lt HM.out.1 HM.out.2.1 HM.out.2.2 H4.out.tab).mono ?_); rintro e w5 ⟨rfl, hW⟩; have H5 := Lib.hid hW; clear hW)
    | (go_at_call 16; go_must (refine (NewPt w5).mono ?_); rintro e w6 ⟨rfl, hE, hP⟩; have H6 := Lib.hid (And.intro hE hP); clear hE hP)
    | fail)
  have HS0 := Lib.hid (sc_start HB.out.1 rfl HQ.out.2.2.2.2.2 (Ext.away (Ext.al w _) (Nat.le_refl _) H1.out.2.1) D1.out.1 D1.out.2.1 D1.out.2.2.1 D1.out.2.2.2 H2.out H4.out (bd5_le _ (Nat.lt_trans (uK_first _ H1.out.1.2) (by decide))) H5.out H6.out.1 H6.out.2)
  have hq0 : pm (bd5 (uK (num4 t0 t1 t2 t3) 0)) q = pm (bV (uK (num4 t0 t1 t2 t3) 0)) q := by
    have h4 := uK_first _ H1.out.1.2
    unfold bd5 bV
    rw [if_pos (by omega)]
  rw [hq0] at HS0
  clear hq0
  generalize w5.heap.size = tp at HS0 ⊢
  generalize w3.heap.size = tb at HS0 ⊢
  generalize hsz : w.heap.size = sb at HS0 ⊢
  have hon := HB.out.2.1.2.2.on
  have HN := Lib.hid (And.intro H1.out.1.1 (And.intro hon H1.out.2.2))
  clear hon hsz HQ HM H1 D1 H2 H4 H5 H6
  go_loopw [10] (fun i wr => ∃ k : Nat, k ≤ 51 ∧ i = .int .i64 (254 - 5 * (k : Int)) ∧ Hid (∃ T, ScW w wr b sb tb tp t0 t1 t2 t3 q (pm (bV (uK (num4 t0 t1 t2 t3) k)) q) T)) (fun i _ => (intOf i + 6).toNat)
  case atStart => exact ⟨0, by decide, rfl, Lib.hid ⟨_, HS0.out⟩⟩
  case round =>
    obtain ⟨k, hk, rfl, HR⟩ := hrel
    obtain ⟨T, hR⟩ := HR.out
    by_cases hlt : k < 51
    · have HQ := Lib.hid (sc_round HN.out.2.1 (num4 t0 t1 t2 t3) k)
      obtain ⟨RR, hRR⟩ : ∃ RR, RR = pm (bV (uK (num4 t0 t1 t2 t3) k)) q := ⟨_, rfl⟩
      rw [← hRR] at hR
      have G0 := Lib.hid hR
      have HRR := Lib.hid hRR
      clear hR hRR HR HS0
      by_cases h50 : k < 50
      · obtain ⟨I, hI⟩ : ∃ I : Int, I = 254 - 5 * (k : Int) := ⟨_, rfl⟩
        rw [← hI]
        have hI1 : 4 ≤ I := by omega
        have hI2 : I ≤ 254 := by omega
        have hI3 : 0 ≤ I - 5 := by omega
        obtain ⟨v, hv⟩ : ∃ v, v = num4 t0 t1 t2 t3 / 2 ^ (249 - 5 * k) % 2 ^ 64 := ⟨_, rfl⟩
        have hRs : ∀ (wr : World) (R T : Pt), ScW w wr b sb tb tp t0 t1 t2 t3 q R T → Calls Try.prog 28 #[.pointer (some ⟨sb, 0, none⟩), .int .i64 (I - 5)] wr fun e w' => e = .returned (.int .u64 (v : Int)) ∧ ScW w w' b sb tb tp t0 t1 t2 t3 q R T := fun wr R T h => by
          rw [hv]
          exact sc_rsh h HN.out.2.2.1 HN.out.2.2.2.1 HN.out.2.2.2.2.1 HN.out.2.2.2.2.2 (I - 5) (249 - 5 * k) (by omega) (by omega)
        have HRs := Lib.hid hRs
        have hv2 : v % 64 = uK (num4 t0 t1 t2 t3) (k + 1) % 64 := by
          rw [hv, uK_rsh _ (249 - 5 * k) (k + 1) (by omega)]
          omega
        have HQ2 := Lib.hid (HQ.out v hlt hv2)
        obtain ⟨S, hS⟩ : ∃ S : Int, S = if bs5 (v % 64) then 1 else 0 := ⟨_, rfl⟩
        have HBo := Lib.hid (Booth_and v S hS)
        have HSg := Lib.hid hS
        have HD := Lib.hid (bd5_le (v % 64) (Nat.mod_lt _ (by decide)))
        have HI := Lib.hid hI
        clear hRs hv hv2 hS hI HQ
        go_wp2_with (first
          | (go_at_call 31; first | ((with_reducible refine (sc_dbl G0.out).mono ?_); rintro e w1 ⟨rfl, h⟩; have G1 := Lib.hid h; clear h) | ((with_reducible refine (sc_dbl G1.out).mono ?_); rintro e w2 ⟨rfl, h⟩; have G2 := Lib.hid h; clear h) | ((with_reducible refine (sc_dbl G2.out).mono ?_); rintro e w3 ⟨rfl, h⟩; have G3 := Lib.hid h; clear h) | ((with_reducible refine (sc_dbl G3.out).mono ?_); rintro e w4 ⟨rfl, h⟩; have G4 := Lib.hid h; clear h) | ((with_reducible refine (sc_dbl G4.out).mono ?_); rintro e w5 ⟨rfl, h⟩; have G5 := Lib.hid h; clear h))
          | (go_at_call 28; (with_reducible refine (HRs.out _ _ _ G5.out).mono ?_); rintro e w6 ⟨rfl, h⟩; have G6 := Lib.hid h; clear h)
          | (go_at_call 27; (with_reducible refine (HBo.out _).mono ?_); rintro e w7 ⟨rfl, hw7⟩; subst hw7)
          | (go_at_call 30; (with_reducible refine (sc_sel G6.out _ HD.out).mono ?_); rintro e w8 ⟨rfl, h⟩; have G7 := Lib.hid h; clear h)
          | (go_at_call 32; (with_reducible refine (sc_neg G7.out _ S HSg.out).mono ?_); rintro e w9 ⟨rfl, h⟩; have G8 := Lib.hid h; clear h)
          | (go_at_call 33; (with_reducible refine (sc_add G8.out).mono ?_); rintro e w10 ⟨rfl, h⟩; have G9 := Lib.hid h; clear h)
          | fail)
        have hf : ScW w w10 b sb tb tp t0 t1 t2 t3 q (psum (dbl5 RR) (if bs5 (v % 64) then pneg (pm (bd5 (v % 64)) q) else pm (bd5 (v % 64)) q)) _ := G9.out
        rw [HRR.out, HQ2.out] at hf
        have hI := HI.out
        exact ⟨⟨k + 1, by omega, by rw [hI]; congr 1; omega, Lib.hid ⟨_, hf⟩⟩, by simp only [intOf]; omega⟩
      · obtain rfl : k = 50 := by omega
        rw [show (254 : Int) - 5 * ((50 : Nat) : Int) = 4 from rfl]
        obtain ⟨v, hv⟩ : ∃ v, v = 2 * t0 % 2 ^ 64 := ⟨_, rfl⟩
        have hv2 : v % 64 = uK (num4 t0 t1 t2 t3) (50 + 1) % 64 := by
          rw [hv, uK_last]
          unfold num4
          omega
        have HQ2 := Lib.hid (HQ.out v hlt hv2)
        obtain ⟨S, hS⟩ : ∃ S : Int, S = if bs5 (v % 64) then 1 else 0 := ⟨_, rfl⟩
        have hBo := Booth_and v S hS
        rw [show (v : Int) = IntKind.u64.wrap ((t0 : Int) * 2) by rw [hv, IntKind.wrap_u64]; omega] at hBo
        have HBo := Lib.hid hBo
        have HSg := Lib.hid hS
        have HD := Lib.hid (bd5_le (v % 64) (Nat.mod_lt _ (by decide)))
        have HV2 := Lib.hid hv
        clear hv hv2 hS hBo HQ
        go_wp2_with (first
          | (go_at_call 31; first | ((with_reducible refine (sc_dbl G0.out).mono ?_); rintro e w1 ⟨rfl, h⟩; have G1 := Lib.hid h; clear h) | ((with_reducible refine (sc_dbl G1.out).mono ?_); rintro e w2 ⟨rfl, h⟩; have G2 := Lib.hid h; clear h) | ((with_reducible refine (sc_dbl G2.out).mono ?_); rintro e w3 ⟨rfl, h⟩; have G3 := Lib.hid h; clear h) | ((with_reducible refine (sc_dbl G3.out).mono ?_); rintro e w4 ⟨rfl, h⟩; have G4 := Lib.hid h; clear h) | ((with_reducible refine (sc_dbl G4.out).mono ?_); rintro e w5 ⟨rfl, h⟩; have G5 := Lib.hid h; have cw := h.c0; clear h))
          | (go_at_call 27; (with_reducible refine (HBo.out _).mono ?_); rintro e w7 ⟨rfl, hw7⟩; subst hw7)
          | (go_at_call 30; (with_reducible refine (sc_sel G5.out _ HD.out).mono ?_); rintro e w8 ⟨rfl, h⟩; have G7 := Lib.hid h; clear h)
          | (go_at_call 32; (with_reducible refine (sc_neg G7.out _ S HSg.out).mono ?_); rintro e w9 ⟨rfl, h⟩; have G8 := Lib.hid h; clear h)
          | (go_at_call 33; (with_reducible refine (sc_add G8.out).mono ?_); rintro e w10 ⟨rfl, h⟩; have G9 := Lib.hid h; clear h)
          | fail)
        have hf : ScW w w10 b sb tb tp t0 t1 t2 t3 q (psum (dbl5 RR) (if bs5 (v % 64) then pneg (pm (bd5 (v % 64)) q) else pm (bd5 (v % 64)) q)) _ := G9.out
        rw [HRR.out, HQ2.out] at hf
        exact ⟨⟨50 + 1, by omega, rfl, Lib.hid ⟨_, hf⟩⟩, by simp [intOf]⟩
    · obtain rfl : k = 51 := by omega
      rw [show (254 : Int) - 5 * ((51 : Nat) : Int) = -1 from rfl]
      go_wp2
      rw [bV_last] at hR
      have e := pm_mod HN.out.2.1 V
      rw [← HN.out.1] at e
      rw [e] at hR
      exact bodyPost_ret (v := .tuple #[.pointer (some ⟨b, 0, none⟩), .nilIface]) (by simp [results, Try.results17, go_sem]) rfl ⟨rfl, hR.trn, hR.p⟩
end Go.Proofs.Ytgdjmgcolipcnaa
