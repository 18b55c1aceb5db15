/-
  What is proved here: the plain law of the reference's product: rows of words, and what the walk keeps of the memory.
  Conditions: those of each theorem.
-/
import Derived.Test.YtgdjmgcolipcnaaProg
import Derived.Test.YtgdjmgcolipcnaaSpecPSpecQ
import Derived.WalkKit
import Derived.WalkSpells
import Derived.Outline
import Derived.Handy
import Derived.ProofKit
import Derived.Deep.QuietTactic
import Derived.BigQuiet
import Derived.Lib.Hide
import Derived.OpenShut
import Derived.BigRegion
namespace Go.Proofs.Ytgdjmgcolipcnaa
open Go Go.RowKit Ecp
set_option linter.unusedSimpArgs false
set_option linter.unusedVariables false

theorem val_set : ∀ (l : List Int) (j : Nat) (x : Int), j < l.length → val (l.set j x) = val l + (x - l.getD j 0) * 4294967296 ^ j
  | [], _, _, h => by simp at h
  | a :: l, 0, x, _ => by simp [val]; omega
  | a :: l, j + 1, x, h => by
    have := val_set l j x (by simpa using h)
    simp only [List.set_cons_succ, val, this, List.getD_cons_succ, Int.pow_succ]
    grind
theorem val_take : ∀ (l : List Int) (k : Nat), k < l.length → val (l.take (k + 1)) = val (l.take k) + l.getD k 0 * 4294967296 ^ k
  | [], _, h => by simp at h
  | a :: l, 0, _ => by simp [val]
  | a :: l, k + 1, h => by
    have := val_take l k (by simpa using h)
    simp only [List.take_succ_cons, val, List.getD_cons_succ, Int.pow_succ] at this ⊢
    rw [this]
    grind
def Bnd (l : List Int) : Prop := ∀ x ∈ l, 0 ≤ x ∧ x < 4294967296
theorem Bnd.at {l : List Int} (h : Bnd l) (j : Nat) : 0 ≤ l.getD j 0 ∧ l.getD j 0 < 4294967296 := by
  by_cases hj : j < l.length
  · have : l.getD j 0 = l[j] := by simp [List.getD, hj]
    rw [this]; exact h _ (List.getElem_mem hj)
  · have : l.getD j 0 = 0 := by simp [List.getD, List.getElem?_eq_none (Nat.le_of_not_lt hj)]
    rw [this]; decide
theorem Bnd.set {l : List Int} (h : Bnd l) (j : Nat) {x : Int} (h0 : 0 ≤ x) (h1 : x < 4294967296) : Bnd (l.set j x) := fun y hy => by
  rcases List.mem_or_eq_of_mem_set hy with h2 | rfl
  · exact h y h2
  · exact ⟨h0, h1⟩
/-- Behind i rows. -/
def RowsS (la lb : List Int) (i : Nat) (L : List Int) : Prop :=
  L.length = 16 ∧ Bnd L ∧ (∀ j, i + 8 ≤ j → L.getD j 0 = 0) ∧ val L = val (la.take i) * val lb
/-- In row i, behind k words. -/
def RowS (la lb : List Int) (i k : Nat) (c : Int) (L : List Int) : Prop :=
  L.length = 16 ∧ Bnd L ∧ (0 ≤ c ∧ c < 4294967296) ∧ (∀ j, i + 8 ≤ j → L.getD j 0 = 0) ∧ val L + c * 4294967296 ^ (i + k) = val (la.take i) * val lb + la.getD i 0 * val (lb.take k) * 4294967296 ^ i
theorem RowsS.start (la lb : List Int) : RowsS la lb 0 [0, 0, 0, 0, 0, 0, 0, 0, 0, 0, 0, 0, 0, 0, 0, 0] := by
  refine ⟨rfl, fun x hx => ?_, fun j hj => ?_, by simp [val]⟩
  · simp only [List.mem_cons, List.not_mem_nil, or_false, or_self] at hx
    subst hx; decide
  · by_cases h : j < 16
    · rcases (show j = 8 ∨ j = 9 ∨ j = 10 ∨ j = 11 ∨ j = 12 ∨ j = 13 ∨ j = 14 ∨ j = 15 by omega) with rfl | rfl | rfl | rfl | rfl | rfl | rfl | rfl <;> rfl
    · rw [List.getD, List.getElem?_eq_none (by simp; omega)]; rfl
theorem RowsS.row {la lb : List Int} {i : Nat} {L : List Int} (h : RowsS la lb i L) : RowS la lb i 0 0 L :=
  ⟨h.1, h.2.1, by decide, h.2.2.1, by rw [h.2.2.2]; simp [val]⟩
theorem mul_bd {x y : Int} (hx0 : 0 ≤ x) (hx : x < 4294967296) (hy0 : 0 ≤ y) (hy : y < 4294967296) : 0 ≤ x * y ∧ x * y ≤ 18446744065119617025 := by
  refine ⟨Int.mul_nonneg hx0 hy0, ?_⟩
  have := Int.mul_le_mul (a := x) (b := y) (c := 4294967295) (d := 4294967295) (by omega) (by omega) hy0 (by decide)
  omega
theorem row_alg (vL c P A T Bk x l q r B PI B' : Int) (h : vL + c * P = T + A * Bk * PI) (hs : c + (l + A * x) = q * B + r) (hP : P = PI * B') : vL + (r - l) * P + q * (P * B) = T + A * (Bk + x * B') * PI := by
  subst hP
  have e : r = c + (l + A * x) - q * B := by omega
  subst e
  grind
theorem RowS.step {la lb : List Int} {i k : Nat} {c : Int} {L : List Int} (h : RowS la lb i k c L) (hi : i < 8) (hk : k < 8) (hla : Bnd la) (hlb : Bnd lb) (hlb8 : lb.length = 8) (s : Int) (hs : s = c + (L.getD (i + k) 0 + la.getD i 0 * lb.getD k 0)) :
    RowS la lb i (k + 1) (s / 4294967296) (L.set (i + k) (s % 4294967296)) ∧ 0 ≤ s ∧ s < 18446744073709551616 := by
  have hw := h.2.1.at (i + k)
  have hm := mul_bd (hla.at i).1 (hla.at i).2 (hlb.at k).1 (hlb.at k).2
  have hc := h.2.2.1
  have hs0 : 0 ≤ s ∧ s < 18446744073709551616 := by
    obtain ⟨m, hmm⟩ : ∃ m, m = la.getD i 0 * lb.getD k 0 := ⟨_, rfl⟩
    rw [← hmm] at hs hm
    omega
  refine ⟨⟨by rw [List.length_set]; exact h.1, h.2.1.set _ (Int.emod_nonneg _ (by decide)) (Int.emod_lt_of_pos _ (by decide)), by omega, fun j hj => ?_, ?_⟩, hs0⟩
  · refine Eq.trans ?_ (h.2.2.2.1 j hj)
    simp only [List.getD]
    rw [List.getElem?_set_ne (by omega)]
  · rw [val_set _ _ _ (by rw [h.1]; omega), val_take _ _ (by omega)]
    rw [show i + (k + 1) = (i + k) + 1 by omega, Int.pow_succ]
    refine row_alg _ c _ _ _ _ _ _ _ _ _ _ _ h.2.2.2.2 ?_ (by rw [Int.pow_add])
    rw [← hs]
    omega
theorem RowS.done {la lb : List Int} {i : Nat} {c : Int} {L : List Int} (h : RowS la lb i 8 c L) (hi : i < 8) (hla8 : la.length = 8) (hlb8 : lb.length = 8) : RowsS la lb (i + 1) (L.set (i + 8) c) := by
  refine ⟨by rw [List.length_set]; exact h.1, h.2.1.set _ h.2.2.1.1 h.2.2.1.2, fun j hj => ?_, ?_⟩
  · refine Eq.trans ?_ (h.2.2.2.1 j (by omega))
    simp only [List.getD]
    rw [List.getElem?_set_ne (by omega)]
  · rw [val_set _ _ _ (by rw [h.1]; omega), h.2.2.2.1 (i + 8) (by omega), val_take _ _ (by omega)]
    have h2 := h.2.2.2.2
    rw [show lb.take 8 = lb by rw [List.take_of_length_le]; omega] at h2
    rw [Int.sub_zero, h2]
    grind
/-- What the walk keeps of the memory: the two factors, the words, and the place of the result. -/
structure TmS (w wr : World) (n : Nat) (la lb L : List Int) : Prop where
  ext : Ext w wr
  lt : n + 3 < wr.heap.size
  ge : w.heap.size ≤ n
  a : Wds wr n la
  b : Wds wr (n + 1) lb
  l : Wds wr (n + 3) L
  free : ∀ j, wr.frozen? ⟨n + 3, j, none⟩ = false
  out : Free wr (n + 2) 0 8
theorem TmS.drew {w wr : World} {n : Nat} {la lb L : List Int} (h : TmS w wr n la lb L) (q : Nat) : TmS w (wr.drewN q) n la lb L :=
  ⟨Turned.ext_of_new h.ext ((Turned.refl (n + 3) 0 0 wr).drewN q) (by have := h.ge; omega), h.lt, h.ge, h.a.drewN q, h.b.drewN q, h.l.drewN q, h.free, h.out.drewN q⟩
theorem TmS.set {w wr : World} {n : Nat} {la lb L : List Int} (h : TmS w wr n la lb L) {j : Nat} (hj : j < L.length) (x : Int) : TmS w (wr.setCell ⟨n + 3, j, none⟩ (.int .i64 x)) n la lb (L.set j x) := by
  have T := Turned.set1 wr (n + 3) j L.length (.int .i64 x) hj
  have hl := h.lt
  have hg := h.ge
  refine ⟨Turned.ext_of_new h.ext T (by omega), T.lt hl, hg, wds_of ((held_of h.a).far T (by omega) (.inl (by omega))), wds_of ((held_of h.b).far T (by omega) (.inl (by omega))), h.l.set hj x, fun i => by rw [World.frozen?_setCell]; exact h.free i, h.out.far T (by omega) (.inl (by omega))⟩
end Go.Proofs.Ytgdjmgcolipcnaa
/-
  What is proved here: what the reference's product of elements returns.
  Conditions: those of each theorem.
-/
namespace Go.Proofs.Ytgdjmgcolipcnaa
open Go Go.RowKit Ecp
set_option linter.unusedSimpArgs false
set_option linter.unusedVariables false

theorem and_mask_u (c : Int) (h0 : 0 ≤ c) : bits BinOp.and IntKind.u64 c 4294967295 = c % 4294967296 := by
  have e : (BitVec.ofInt 64 c &&& BitVec.ofInt 64 4294967295).toNat = (c % 4294967296).toNat := by
    rw [BitVec.toNat_and]
    have h1 : (BitVec.ofInt 64 4294967295).toNat = 4294967295 := by decide
    have h2 : (BitVec.ofInt 64 c).toNat = (c % 18446744073709551616).toNat := by simp [BitVec.toNat_ofInt]
    rw [h1, h2, show (4294967295 : Nat) = 2 ^ 32 - 1 from rfl, Nat.and_two_pow_sub_one_eq_mod]
    omega
  show IntKind.u64.wrap (((BitVec.ofInt 64 c &&& BitVec.ofInt 64 4294967295).toNat : Nat) : Int) = _
  rw [e, show (((c % 4294967296).toNat : Nat) : Int) = c % 4294967296 by omega]
  simp [IntKind.wrap, IntKind.signed, IntKind.bits]
  omega
theorem uw {x : Int} (h0 : 0 ≤ x) (h1 : x < 18446744073709551616) : IntKind.u64.wrap x = x := by
  simp [IntKind.wrap, IntKind.signed, IntKind.bits]
  omega
theorem wrap3 (c a x y : Int) (hc : 0 ≤ c ∧ c < 4294967296) (ha : 0 ≤ a ∧ a < 4294967296) (hx : 0 ≤ x ∧ x < 4294967296) (hy : 0 ≤ y ∧ y < 4294967296) :
    IntKind.u64.wrap (c + IntKind.u64.wrap (a + IntKind.u64.wrap (x * y))) = c + (a + x * y) := by
  have hm := mul_bd hx.1 hx.2 hy.1 hy.2
  generalize x * y = m at *
  rw [uw (x := m) (by omega) (by omega), uw (x := a + m) (by omega) (by omega), uw (by omega) (by omega)]
theorem list16 : ∀ L : List Int, L.length = 16 → ∃ l0 l1 l2 l3 l4 l5 l6 l7 l8 l9 l10 l11 l12 l13 l14 l15, L = [l0, l1, l2, l3, l4, l5, l6, l7, l8, l9, l10, l11, l12, l13, l14, l15]
  | [l0, l1, l2, l3, l4, l5, l6, l7, l8, l9, l10, l11, l12, l13, l14, l15], _ => ⟨l0, l1, l2, l3, l4, l5, l6, l7, l8, l9, l10, l11, l12, l13, l14, l15, rfl⟩
set_option maxHeartbeats 8000000 in
set_option maxRecDepth 100000 in
theorem Times_any (x y : Fp) (w : World) : Calls Try.prog 13 #[Fv x, Fv y] w fun e w' => e = .returned (Fv (x * y)) ∧ Ext w w' := by
  obtain ⟨a0, a1, a2, a3, a4, a5, a6, a7, hda, hea, ha0, ha1, ha2, ha3, ha4, ha5, ha6, ha7⟩ := E8_open (x.val : Int)
  obtain ⟨b0, b1, b2, b3, b4, b5, b6, b7, hdb, heb, hb0, hb1, hb2, hb3, hb4, hb5, hb6, hb7⟩ := E8_open (y.val : Int)
  have hva := val_E8 (fv_bd x).1 (fv_bd x).2
  have hvb := val_E8 (fv_bd y).1 (fv_bd y).2
  have hba : Bnd (digs 8 (x.val : Int)) := digs_bd 8 _
  have hbb : Bnd (digs 8 (y.val : Int)) := digs_bd 8 _
  rw [hda] at hva hba
  rw [hdb] at hvb hbb
  unfold Fv
  rw [hea, heb]
  obtain ⟨la, hla⟩ : ∃ la : List Int, la = [a0, a1, a2, a3, a4, a5, a6, a7] := ⟨_, rfl⟩
  obtain ⟨lb, hlb⟩ : ∃ lb : List Int, lb = [b0, b1, b2, b3, b4, b5, b6, b7] := ⟨_, rfl⟩
  rw [← hla] at hva hba
  rw [← hlb] at hvb hbb
  have hra : (#[Value.int .i64 a0, Value.int .i64 a1, Value.int .i64 a2, Value.int .i64 a3, Value.int .i64 a4, Value.int .i64 a5, Value.int .i64 a6, Value.int .i64 a7] : Array Value) = (la.map (Value.int .i64)).toArray := by rw [hla]; rfl
  have hrb : (#[Value.int .i64 b0, Value.int .i64 b1, Value.int .i64 b2, Value.int .i64 b3, Value.int .i64 b4, Value.int .i64 b5, Value.int .i64 b6, Value.int .i64 b7] : Array Value) = (lb.map (Value.int .i64)).toArray := by rw [hlb]; rfl
  have hla8 : la.length = 8 := by rw [hla]; rfl
  have hlb8 : lb.length = 8 := by rw [hlb]; rfl
  obtain ⟨n, hn⟩ : ∃ n, n = w.heap.size := ⟨_, rfl⟩
  have hS : TmS w ((((w.alloc (.cells #[.int .i64 a0, .int .i64 a1, .int .i64 a2, .int .i64 a3, .int .i64 a4, .int .i64 a5, .int .i64 a6, .int .i64 a7] 26)).alloc (.cells #[.int .i64 b0, .int .i64 b1, .int .i64 b2, .int .i64 b3, .int .i64 b4, .int .i64 b5, .int .i64 b6, .int .i64 b7] 26)).alloc (.cells #[.int .i64 0, .int .i64 0, .int .i64 0, .int .i64 0, .int .i64 0, .int .i64 0, .int .i64 0, .int .i64 0] 26)).alloc (.cells #[.int .i64 0, .int .i64 0, .int .i64 0, .int .i64 0, .int .i64 0, .int .i64 0, .int .i64 0, .int .i64 0, .int .i64 0, .int .i64 0, .int .i64 0, .int .i64 0, .int .i64 0, .int .i64 0, .int .i64 0, .int .i64 0] 53)) w.heap.size la lb [0, 0, 0, 0, 0, 0, 0, 0, 0, 0, 0, 0, 0, 0, 0, 0] := by
    refine ⟨((((Ext.al _ _).trans (Ext.al _ _)).trans (Ext.al _ _)).trans (Ext.al _ _)), by simp [size_alloc], Nat.le_refl _, wds_of (Held.row' 26 (0, 0) ?_), wds_of (Held.row' 26 (0, 0) ?_), wds_of (Held.row' (l := [0, 0, 0, 0, 0, 0, 0, 0, 0, 0, 0, 0, 0, 0, 0, 0]) 53 (0, 0) (heap_at _ _ _ (by simp [size_alloc]))), fun o => frozen_row (heap_at _ _ _ (by simp [size_alloc])) o, Free.alloc (Free.newWords (by simp [size_alloc]) rfl) (by simp [size_alloc]) _⟩
    · rw [← hra, heap_past _ _ _ (by simp [size_alloc]; omega), heap_past _ _ _ (by simp [size_alloc]; omega), heap_past _ _ _ (by simp [size_alloc])]
      exact heap_at _ _ _ rfl
    · rw [← hrb, heap_past _ _ _ (by simp [size_alloc]), heap_past _ _ _ (by simp [size_alloc])]
      exact heap_at _ _ _ (by simp [size_alloc])
  obtain ⟨R, hRR⟩ : ∃ R, R = E8 ((x * y : Fp).val : Int) := ⟨_, rfl⟩
  rw [← hRR]
  have HRR := Lib.hid hRR
  clear hRR
  have H := Lib.hid (And.intro hS (And.intro hva (And.intro hvb (And.intro hba (And.intro hbb (And.intro hla8 hlb8))))))
  clear hS hva hvb hba hbb hla8 hlb8 hra hrb hea heb hda hdb hla hlb ha0 hb0 ha1 hb1 ha2 hb2 ha3 hb3 ha4 hb4 ha5 hb5 ha6 hb6 ha7 hb7
  go_enter Try.func13, Try.ntmps13
  go_wp2
  go_loopw [6] (fun i wr => ∃ k : Nat, k ≤ 8 ∧ i = .int .i64 k ∧ Hid (∃ L, TmS w wr w.heap.size la lb L ∧ RowsS la lb k L)) (fun i _ => 8 - (intOf i).toNat)
  case atStart => exact ⟨0, by omega, rfl, Lib.hid ⟨_, H.out.1, RowsS.start la lb⟩⟩
  case round =>
    obtain ⟨k, hk, rfl, HR⟩ := hrel
    by_cases hlt : k < 8
    · have hlt' : (k : Int) < 8 := by omega
      go_wp2
      obtain ⟨wo, rfl⟩ : ∃ wo : World, wo = wr := ⟨_, rfl⟩
      go_loopw [7, 8] (fun c j wr2 => ∃ (kk : Nat) (cc : Int), kk ≤ 8 ∧ j = .int .i64 kk ∧ c = .int .u64 cc ∧ Hid (∃ L, TmS w wr2 w.heap.size la lb L ∧ RowS la lb k kk cc L)) (fun _ j _ => 8 - (intOf j).toNat)
      case atStart =>
        obtain ⟨L, hT, hR⟩ := HR.out
        exact ⟨0, 0, by omega, rfl, rfl, Lib.hid ⟨L, hT, hR.row⟩⟩
      case round =>
        obtain ⟨kk, cc, hkk, rfl, rfl, HI⟩ := hrel
        by_cases hlt2 : kk < 8
        · have hlt2' : (kk : Int) < 8 := by omega
          obtain ⟨L, hT, hR⟩ := HI.out
          have hA1 := hR.2.1.at (k + kk)
          have hA2 := H.out.2.2.2.1.at k
          have hA3 := H.out.2.2.2.2.1.at kk
          have hcc := hR.2.2.1
          have hst := hR.step hlt hlt2 H.out.2.2.2.1 H.out.2.2.2.2.1 H.out.2.2.2.2.2.2 _ rfl
          have a1 : wr.cell? ⟨w.heap.size + 1 + 1 + 1, k + kk, none⟩ = some (.int .i64 (L.getD (k + kk) 0)) := hT.l.at (by rw [hR.1]; omega)
          have a2 : wr.cell? ⟨w.heap.size, k, none⟩ = some (.int .i64 (la.getD k 0)) := hT.a.at (by rw [H.out.2.2.2.2.2.1]; omega)
          have a3 : wr.cell? ⟨w.heap.size + 1, kk, none⟩ = some (.int .i64 (lb.getD kk 0)) := hT.b.at (by rw [H.out.2.2.2.2.2.2]; omega)
          have f1 : wr.frozen? ⟨w.heap.size + 1 + 1 + 1, k + kk, none⟩ = false := hT.free _
          have HG := Lib.hid (And.intro hT (And.intro hR hst))
          clear hT hR hst HI
          generalize L.getD (k + kk) 0 = A1 at a1 hA1 HG
          generalize la.getD k 0 = A2 at a2 hA2 HG
          generalize lb.getD kk 0 = A3 at a3 hA3 HG
          go_wp2_with (refine wp_quiet_tail (l := [_, _, _, _, _, _, _, _, _, _, _, _, _, _, _, _, _, _, _]) 18 (by kernel_rfl) (by kernel_rfl) ?_; simp only [List.take_succ_cons, List.take_zero, List.drop_succ_cons, List.drop_zero]; (repeat (first | go_big_quiet_skip | (go_big_quiet_want; go_big_quiet_op; first | go_big_quiet_on))); refine wpQuiet_nil ?_; intro _ hw'; obtain ⟨nq, hw''⟩ := hw'; subst hw'')
          have hw : IntKind.u64.wrap (cc + IntKind.u64.wrap (A1 + IntKind.u64.wrap (A2 * A3))) = cc + (A1 + A2 * A3) := wrap3 cc A1 A2 A3 hcc hA1 hA2 hA3
          refine ⟨⟨kk + 1, (cc + (A1 + A2 * A3)) / 4294967296, by omega, by go_num, by rw [hw], Lib.hid ⟨_, (HG.out.1.set (j := k + kk) (by rw [HG.out.2.1.1]; omega) _).drew nq, ?_⟩⟩, by simp [intOf]; omega⟩
          rw [hw, and_mask_u _ HG.out.2.2.2.1, w64 _ (by omega)]
          exact HG.out.2.2.1
        · obtain rfl : kk = 8 := by omega
          obtain ⟨L, hT, hR⟩ := HI.out
          have hcc := hR.2.2.1
          have f1 : wr.frozen? ⟨w.heap.size + 1 + 1 + 1, k + 8, none⟩ = false := hT.free _
          have a1 : wr.cell? ⟨w.heap.size + 1 + 1 + 1, k + 8, none⟩ = some (.int .i64 (L.getD (k + 8) 0)) := hT.l.at (by rw [hR.1]; omega)
          have HG := Lib.hid (And.intro hT (And.intro hR.1 (hR.done hlt H.out.2.2.2.2.2.1 H.out.2.2.2.2.2.2)))
          clear hT hR HI
          go_wp2
          exact ⟨⟨k + 1, by omega, by go_num, Lib.hid ⟨_, HG.out.1.set (j := k + 8) (by rw [HG.out.2.1]; omega) _, HG.out.2.2⟩⟩, by simp [intOf]; omega⟩
    · obtain rfl : k = 8 := by omega
      obtain ⟨L, hT, hR⟩ := HR.out
      obtain ⟨l0, l1, l2, l3, l4, l5, l6, l7, l8, l9, l10, l11, l12, l13, l14, l15, rfl⟩ := list16 L hR.1
      have hv := hR.2.2.2
      rw [show la.take 8 = la by rw [List.take_of_length_le]; rw [H.out.2.2.2.2.2.1]; omega, H.out.2.1, H.out.2.2.1] at hv
      have hr := reduced_any l0 l1 l2 l3 l4 l5 l6 l7 l8 l9 l10 l11 l12 l13 l14 l15 (fun z hz => by have := hR.2.1 z hz; omega)
      rw [hv, E8_mod, zf_mul, zf_nat, zf_nat] at hr
      unfold Fv at hr
      obtain ⟨r0, r1, r2, r3, r4, r5, r6, r7, _, hg, _⟩ := E8_open ((x * y : Fp).val : Int)
      rw [hg] at hr
      have hg' := HRR.out.trans hg
      have HG' := Lib.hid hg'
      have c0 : wr.cell? ⟨w.heap.size + 1 + 1 + 1, 0, none⟩ = some (.int .i64 l0) := hT.l 0 _ rfl
      have c1 : wr.cell? ⟨w.heap.size + 1 + 1 + 1, 1, none⟩ = some (.int .i64 l1) := hT.l 1 _ rfl
      have c2 : wr.cell? ⟨w.heap.size + 1 + 1 + 1, 2, none⟩ = some (.int .i64 l2) := hT.l 2 _ rfl
      have c3 : wr.cell? ⟨w.heap.size + 1 + 1 + 1, 3, none⟩ = some (.int .i64 l3) := hT.l 3 _ rfl
      have c4 : wr.cell? ⟨w.heap.size + 1 + 1 + 1, 4, none⟩ = some (.int .i64 l4) := hT.l 4 _ rfl
      have c5 : wr.cell? ⟨w.heap.size + 1 + 1 + 1, 5, none⟩ = some (.int .i64 l5) := hT.l 5 _ rfl
      have c6 : wr.cell? ⟨w.heap.size + 1 + 1 + 1, 6, none⟩ = some (.int .i64 l6) := hT.l 6 _ rfl
      have c7 : wr.cell? ⟨w.heap.size + 1 + 1 + 1, 7, none⟩ = some (.int .i64 l7) := hT.l 7 _ rfl
      have c8 : wr.cell? ⟨w.heap.size + 1 + 1 + 1, 8, none⟩ = some (.int .i64 l8) := hT.l 8 _ rfl
      have c9 : wr.cell? ⟨w.heap.size + 1 + 1 + 1, 9, none⟩ = some (.int .i64 l9) := hT.l 9 _ rfl
      have c10 : wr.cell? ⟨w.heap.size + 1 + 1 + 1, 10, none⟩ = some (.int .i64 l10) := hT.l 10 _ rfl
      have c11 : wr.cell? ⟨w.heap.size + 1 + 1 + 1, 11, none⟩ = some (.int .i64 l11) := hT.l 11 _ rfl
      have c12 : wr.cell? ⟨w.heap.size + 1 + 1 + 1, 12, none⟩ = some (.int .i64 l12) := hT.l 12 _ rfl
      have c13 : wr.cell? ⟨w.heap.size + 1 + 1 + 1, 13, none⟩ = some (.int .i64 l13) := hT.l 13 _ rfl
      have c14 : wr.cell? ⟨w.heap.size + 1 + 1 + 1, 14, none⟩ = some (.int .i64 l14) := hT.l 14 _ rfl
      have c15 : wr.cell? ⟨w.heap.size + 1 + 1 + 1, 15, none⟩ = some (.int .i64 l15) := hT.l 15 _ rfl
      obtain ⟨⟨x0, n0⟩, k0⟩ := (show Free wr (w.heap.size + 1 + 1) 0 8 from hT.out) 0 (by decide)
      obtain ⟨⟨x1, n1⟩, k1⟩ := (show Free wr (w.heap.size + 1 + 1) 0 8 from hT.out) 1 (by decide)
      obtain ⟨⟨x2, n2⟩, k2⟩ := (show Free wr (w.heap.size + 1 + 1) 0 8 from hT.out) 2 (by decide)
      obtain ⟨⟨x3, n3⟩, k3⟩ := (show Free wr (w.heap.size + 1 + 1) 0 8 from hT.out) 3 (by decide)
      obtain ⟨⟨x4, n4⟩, k4⟩ := (show Free wr (w.heap.size + 1 + 1) 0 8 from hT.out) 4 (by decide)
      obtain ⟨⟨x5, n5⟩, k5⟩ := (show Free wr (w.heap.size + 1 + 1) 0 8 from hT.out) 5 (by decide)
      obtain ⟨⟨x6, n6⟩, k6⟩ := (show Free wr (w.heap.size + 1 + 1) 0 8 from hT.out) 6 (by decide)
      obtain ⟨⟨x7, n7⟩, k7⟩ := (show Free wr (w.heap.size + 1 + 1) 0 8 from hT.out) 7 (by decide)
      simp only [Nat.zero_add] at n0 k0 n1 k1 n2 k2 n3 k3 n4 k4 n5 k5 n6 k6 n7 k7
      have hq : w.heap.size + 1 + 1 < wr.heap.size := Nat.lt_trans (Nat.lt_succ_self _) hT.lt
      have HG := Lib.hid (And.intro hT (And.intro hr hq))
      clear hT hR hv hr hg hg' HR
      go_wp2_with (go_at_call 21; go_must (refine (HG.out.2.1 _).mono ?_); rintro e w' ⟨rfl, gg, rfl⟩)
      have hS := set8 wr (w.heap.size + 1 + 1) r0 r1 r2 r3 r4 r5 r6 r7 HG.out.1.out
      refine bodyPost_ret (results_E8 rfl rfl (hS.2.ext (hS.1.lt HG.out.2.2) _)) rfl ⟨by rw [HG'.out], ?_⟩
      exact (Turned.ext_of_new HG.out.1.ext hS.1 (by omega)).trans ⟨_, rfl⟩
end Go.Proofs.Ytgdjmgcolipcnaa
