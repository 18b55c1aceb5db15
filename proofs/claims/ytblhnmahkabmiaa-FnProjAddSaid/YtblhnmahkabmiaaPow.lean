/-
  What is proved here: what the reference's power of an element returns.
  Conditions: those of each theorem.
-/
import Derived.Test.YtblhnmahkabmiaaProg
import Derived.Test.YtblhnmahkabmiaaRow
import Derived.WalkKit
import Derived.WalkSpells
import Derived.Outline
import Derived.Handy
import Derived.ProofKit
import Derived.Deep.QuietTactic
import Derived.BigQuiet
import Derived.Lib.Hide
import Derived.OpenShut
namespace Go.Proofs.Ytblhnmahkabmiaa
open Go Go.RowKit Ecp
set_option linter.unusedSimpArgs false
set_option linter.unusedVariables false

theorem digs_at : ∀ (k : Nat) (S : Int) (i : Nat), i < k → (digs k S).getD i 0 = S / 4294967296 ^ i % 4294967296
  | 0, _, _, h => by omega
  | k + 1, S, 0, _ => by simp [digs]
  | k + 1, S, i + 1, h => by
    have := digs_at k (S / 4294967296) i (by omega)
    simp only [digs, List.getD_cons_succ, this]
    rw [Int.pow_succ, Int.mul_comm, Int.ediv_ediv_of_nonneg (by decide)]
/-- What the loop keeps of the memory. -/
structure PwS (w wr : World) (m : Nat) (x E o : Int) : Prop where
  ext : Ext w wr
  ge : w.heap.size + 1 + 1 < m
  a : wr.heap[w.heap.size]? = some (.cells (ec x) 26 (0, 0))
  e : wr.heap[w.heap.size + 1]? = some (.cells (ec E) 26 (0, 0))
  r : wr.heap[w.heap.size + 1 + 1]? = some (.cells (ec 0) 26 (0, 0))
  o : wr.heap[m]? = some (.cells (ec o) 26 (0, 0))
theorem PwS.step {w wr w' : World} {m : Nat} {x E o : Int} (h : PwS w wr m x E o) (hE : Ext wr w') (o' : Int) : PwS w (w'.setRow m (ec o')) m x E o' where
  ext := (h.ext.trans hE).setRow (by have := h.ge; omega) _
  ge := h.ge
  a := by rw [setRow_other _ _ _ _ (by have := h.ge; omega)]; exact ext_heap hE h.a
  e := by rw [setRow_other _ _ _ _ (by have := h.ge; omega)]; exact ext_heap hE h.e
  r := by rw [setRow_other _ _ _ _ (by have := h.ge; omega)]; exact ext_heap hE h.r
  o := setRow_heap _ _ _ _ _ _ (ext_heap hE h.o)
theorem cell_ec {w : World} {b : Nat} {S : Int} {t : TypeId} {fr : Nat × Nat} (h : w.heap[b]? = some (.cells (ec S) t fr)) (i : Nat) (hi : i < 8) : w.cell? ⟨b, i, none⟩ = some (.int .i64 (S / 4294967296 ^ i % 4294967296)) := by
  rw [cell_of_row w b i _ t fr h, ← digs_at 8 S i hi]
  have hl : i < (digs 8 S).length := by rw [digs_length]; exact hi
  simp [ec, List.getD, hl]
theorem and_one (c : Nat) : bits BinOp.and IntKind.i64 (c : Int) 1 = ((c % 2 : Nat) : Int) := by
  have e : (BitVec.ofInt 64 (c : Int) &&& BitVec.ofInt 64 1).toNat = c % 2 := by
    rw [BitVec.toNat_and]
    have h1 : (BitVec.ofInt 64 1).toNat = 1 := by decide
    have h2 : (BitVec.ofInt 64 (c : Int)).toNat = c % 18446744073709551616 := by simp [BitVec.toNat_ofInt]
    rw [h1, h2, show (1 : Nat) = 2 ^ 1 - 1 from rfl, Nat.and_two_pow_sub_one_eq_mod]
    omega
  show IntKind.i64.wrap (((BitVec.ofInt 64 (c : Int) &&& BitVec.ofInt 64 1).toNat : Nat) : Int) = _
  rw [e]
  simp [IntKind.wrap, IntKind.signed, IntKind.bits]
  omega
theorem bit_nat (E j : Nat) : E / 4294967296 ^ (j / 32) % 4294967296 / 2 ^ (j % 32) % 2 = E / 2 ^ j % 2 := by
  rw [show (4294967296 : Nat) = 2 ^ 32 from rfl, ← Nat.pow_mul]
  have h1 : ∀ a b : Nat, a % 2 < 2 → b % 2 < 2 → (a % 2 = 1 ↔ b % 2 = 1) → a % 2 = b % 2 := fun a b _ _ h => by omega
  refine h1 _ _ (by omega) (by omega) ?_
  have t : ∀ n r : Nat, n / 2 ^ r % 2 = 1 ↔ n.testBit r = true := fun n r => by rw [Nat.testBit_eq_decide_div_mod_eq]; simp
  rw [t, t, Nat.testBit_mod_two_pow, Nat.testBit_div_two_pow, show j % 32 + 32 * (j / 32) = j by omega]
  simp; omega
theorem bit_cond (E j : Nat) : (bits BinOp.and IntKind.i64 ((E : Int) / 4294967296 ^ (j / 32) % 4294967296 / 2 ^ (j % 32)) 1 == 1) = decide (E / 2 ^ j % 2 = 1) := by
  have e : (E : Int) / 4294967296 ^ (j / 32) % 4294967296 / 2 ^ (j % 32) = ((E / 4294967296 ^ (j / 32) % 4294967296 / 2 ^ (j % 32) : Nat) : Int) := by simp only [Int.natCast_ediv, Int.natCast_emod, Int.natCast_pow]; rfl
  rw [e, and_one, bit_nat]
  by_cases h : E / 2 ^ j % 2 = 1
  · rw [h]; rfl
  · rw [show E / 2 ^ j % 2 = 0 by omega]; rfl
theorem fpow_half (x : Fp) (E j : Nat) : fpow x (E / 2 ^ j) = if E / 2 ^ j % 2 = 1 then fpow x (E / 2 ^ (j + 1)) * fpow x (E / 2 ^ (j + 1)) * x else fpow x (E / 2 ^ (j + 1)) * fpow x (E / 2 ^ (j + 1)) := by
  have h : E / 2 ^ (j + 1) = E / 2 ^ j / 2 := by rw [Nat.pow_succ, Nat.div_div_eq_div_mul]
  rw [h]
  generalize E / 2 ^ j = m
  by_cases hb : m % 2 = 1
  · rw [if_pos hb, ← fpow_add, ← fpow_succ]; congr 1; omega
  · rw [if_neg hb, ← fpow_add]; congr 1; omega
set_option maxHeartbeats 1000000 in
set_option maxRecDepth 100000 in
theorem Power_row (x : Fp) (E : Nat) (hE : (E : Int) < R256) (w : World) : Calls Try.prog 26 #[.agg (ec (x.val : Int)), .agg (ec (E : Int))] w fun e w' => e = .returned (.agg (ec ((fpow x E : Fp).val : Int))) ∧ Ext w w' := by
  have H1 := ec_lit1
  have H0 := ec_lit0
  have HS := Lib.hid (fun w => (by have h := Small_any 1 w; rw [← H1] at h; exact h : Calls Try.prog 11 #[.int .i64 1] w fun e w' => e = .returned (.agg (ec 1)) ∧ Ext w w'))
  have HH := Lib.hid (And.intro H0 hE)
  clear H1 H0 hE
  go_enter Try.func26, Try.ntmps26
  go_wp2_with (first | (refine wpList_store_row rfl 26 _ _ rfl _ _ rfl rfl _ _ (by (first | with_reducible assumption | (simp only [heap_at, heap_past, heap_ext, heap_drewN', setRow_size, setRow_heap, size_alloc, size_drewN', size_ext, ltA0, eqA0, qeA0, ltA1, eqA1, qeA1, ltA2, eqA2, qeA2, ltA3, eqA3, qeA3, ltA4, eqA4, qeA4, ltA5, eqA5, qeA5, ltA6, eqA6, qeA6, ltA7, eqA7, qeA7, ltA8, eqA8, qeA8]; with_reducible rfl))) (inE _) (by rw [ec_size]; rfl) (ec_one _) ?_; (try simp only [setRow_drewN, setRow_drew, setRow_alloc_at, setRow_alloc_past, setRow_ext, size_alloc, size_drewN', size_ext, ltA0, ltA1, ltA2, ltA3, ltA4, ltA5, ltA6, ltA7, ltA8])) | (refine wpList_load_row rfl 26 _ rfl _ rfl _ _ _ _ (by (first | with_reducible assumption | (simp only [heap_at, heap_past, heap_ext, heap_drewN', setRow_size, setRow_heap, size_alloc, size_drewN', size_ext, ltA0, eqA0, qeA0, ltA1, eqA1, qeA1, ltA2, eqA2, qeA2, ltA3, eqA3, qeA3, ltA4, eqA4, qeA4, ltA5, eqA5, qeA5, ltA6, eqA6, qeA6, ltA7, eqA7, qeA7, ltA8, eqA8, qeA8]; with_reducible rfl))) Try.underlying26 rfl (inE _) ?_) | (go_at_call 11; go_must (refine (HS.out _).mono ?_); rintro e w' ⟨rfl, gg, rfl⟩))
  have hP : PwS w ((ext (((w.alloc (.cells (ec ↑↑x) 26)).alloc (.cells (ec ↑E) 26)).alloc (.cells (ec 0) 26)) gg).alloc (.cells (ec 1) 26)) (w.heap.size + 1 + 1 + 1 + gg.os.length) (x.val : Int) (E : Int) 1 := by
    refine ⟨((((Ext.al _ _).trans (Ext.al _ _)).trans (Ext.al _ _)).trans ⟨_, rfl⟩).trans (Ext.al _ _), by omega, ?_, ?_, ?_, ?_⟩ <;> (simp only [heap_at, heap_past, heap_ext, heap_drewN', setRow_size, setRow_heap, size_alloc, size_drewN', size_ext, ltA0, eqA0, qeA0, ltA1, eqA1, qeA1, ltA2, eqA2, qeA2, ltA3, eqA3, qeA3, ltA4, eqA4, qeA4, ltA5, eqA5, qeA5, ltA6, eqA6, qeA6, ltA7, eqA7, qeA7, ltA8, eqA8, qeA8]; try rfl)
  rw [HH.out.1] at hP
  have HP := Lib.hid hP
  clear hP
  obtain ⟨m, hm⟩ : ∃ m, m = w.heap.size + 1 + 1 + 1 + gg.os.length := ⟨_, rfl⟩
  simp only [← hm] at HP ⊢
  clear hm
  go_loopw [6] (fun i wr => (∃ j : Nat, j < 256 ∧ i = .int .i64 j ∧ Hid (PwS w wr m (x.val : Int) (E : Int) ((fpow x (E / 2 ^ (j + 1))).val : Int))) ∨ (i = .int .i64 (-1) ∧ Hid (PwS w wr m (x.val : Int) (E : Int) ((fpow x E).val : Int)))) (fun i _ => (intOf i + 1).toNat)
  case atStart =>
    refine .inl ⟨255, by omega, rfl, Lib.hid ?_⟩
    rw [Nat.div_eq_of_lt (by have := HH.out.2; simp only [R256] at this; omega), fpow_zero, val_one']
    exact HP.out
  case round =>
    rcases hrel with ⟨j, hj, rfl, HR⟩ | ⟨rfl, HR⟩
    · have c1 := HR.out.o
      have HF := Lib.hid (fpow_half x E j)
      have HB := Lib.hid (bit_cond E j)
      by_cases hb : E / 2 ^ j % 2 = 1
      · have hbc : (bits BinOp.and IntKind.i64 ((E : Int) / 4294967296 ^ (j / 32) % 4294967296 / 2 ^ (j % 32)) 1 == 1) = true := by rw [HB.out]; simpa using hb
        have HF2 := Lib.hid (show fpow x (E / 2 ^ j) = fpow x (E / 2 ^ (j + 1)) * fpow x (E / 2 ^ (j + 1)) * x by have := HF.out; rwa [if_pos hb] at this)
        clear hb HF
        obtain ⟨O, hO⟩ : ∃ O, O = fpow x (E / 2 ^ (j + 1)) := ⟨_, rfl⟩
        rw [← hO] at c1 HF2
        have HO := Lib.hid hO
        have HR2 := Lib.hid (show PwS w wr m (x.val : Int) (E : Int) (O.val : Int) by rw [hO]; exact HR.out)
        clear HR hO
        go_wp2_with (first | (refine wpList_store_row rfl 26 _ _ rfl _ _ rfl rfl _ _ (by (first | assumption | exact c4 _ | exact c5 _ | (simp only [heap_at, heap_past, heap_ext, heap_drewN', setRow_size, setRow_heap, size_alloc, size_drewN', size_ext, ltA0, eqA0, qeA0, ltA1, eqA1, qeA1, ltA2, eqA2, qeA2, ltA3, eqA3, qeA3, ltA4, eqA4, qeA4, ltA5, eqA5, qeA5, ltA6, eqA6, qeA6, ltA7, eqA7, qeA7, ltA8, eqA8, qeA8]; with_reducible rfl))) (inE _) (by rw [ec_size, ec_size]) (ec_one _) ?_) | (refine wpList_load_row rfl 26 _ rfl _ rfl _ _ _ _ (by (first | assumption | exact c4 _ | exact c5 _ | (simp only [heap_at, heap_past, heap_ext, heap_drewN', setRow_size, setRow_heap, size_alloc, size_drewN', size_ext, ltA0, eqA0, qeA0, ltA1, eqA1, qeA1, ltA2, eqA2, qeA2, ltA3, eqA3, qeA3, ltA4, eqA4, qeA4, ltA5, eqA5, qeA5, ltA6, eqA6, qeA6, ltA7, eqA7, qeA7, ltA8, eqA8, qeA8]; with_reducible rfl))) Try.underlying26 rfl (inE _) ?_) | (go_at_call 15; first
          | (have c4' := c4; go_must (refine (Times_row (O * O) x _).mono ?_); rintro e w2 ⟨rfl, hE2⟩; have c6 := ext_heap hE2 (c4 _))
          | (go_must (refine (Times_row O O wr).mono ?_); rintro e w1 ⟨rfl, hE1⟩; have c2 := ext_heap hE1 HR2.out.o; have c3 : ∀ o', (w1.setRow m (ec o')).cell? ⟨w.heap.size + 1, j / 32, none⟩ = _ := fun o' => cell_ec (HR2.out.step hE1 o').e (j / 32) (by omega); have c4 := fun o' => (HR2.out.step hE1 o').o; have c5 := fun o' => (HR2.out.step hE1 o').a)))
        have hfin := (HR2.out.step hE1 ((O * O : Fp).val : Int)).step hE2 ((O * O * x : Fp).val : Int)
        rw [← HF2.out] at hfin ⊢
        have HFIN := Lib.hid hfin
        clear hfin
        refine ⟨?_, by simp [intOf]⟩
        cases j with
        | zero => exact .inr ⟨rfl, Lib.hid (by have h := HFIN.out; rw [Nat.pow_zero, Nat.div_one] at h ⊢; exact h)⟩
        | succ j' => exact .inl ⟨j', by omega, by congr 1; omega, Lib.hid HFIN.out⟩
      · have hbc : (bits BinOp.and IntKind.i64 ((E : Int) / 4294967296 ^ (j / 32) % 4294967296 / 2 ^ (j % 32)) 1 == 1) = false := by rw [HB.out]; simpa using hb
        have HF2 := Lib.hid (show fpow x (E / 2 ^ j) = fpow x (E / 2 ^ (j + 1)) * fpow x (E / 2 ^ (j + 1)) by have := HF.out; rwa [if_neg hb] at this)
        clear hb HF
        obtain ⟨O, hO⟩ : ∃ O, O = fpow x (E / 2 ^ (j + 1)) := ⟨_, rfl⟩
        rw [← hO] at c1 HF2
        have HO := Lib.hid hO
        have HR2 := Lib.hid (show PwS w wr m (x.val : Int) (E : Int) (O.val : Int) by rw [hO]; exact HR.out)
        clear HR hO
        go_wp2_with (first | (refine wpList_store_row rfl 26 _ _ rfl _ _ rfl rfl _ _ (by (first | assumption | exact c4 _ | exact c5 _ | (simp only [heap_at, heap_past, heap_ext, heap_drewN', setRow_size, setRow_heap, size_alloc, size_drewN', size_ext, ltA0, eqA0, qeA0, ltA1, eqA1, qeA1, ltA2, eqA2, qeA2, ltA3, eqA3, qeA3, ltA4, eqA4, qeA4, ltA5, eqA5, qeA5, ltA6, eqA6, qeA6, ltA7, eqA7, qeA7, ltA8, eqA8, qeA8]; with_reducible rfl))) (inE _) (by rw [ec_size, ec_size]) (ec_one _) ?_) | (refine wpList_load_row rfl 26 _ rfl _ rfl _ _ _ _ (by (first | assumption | exact c4 _ | exact c5 _ | (simp only [heap_at, heap_past, heap_ext, heap_drewN', setRow_size, setRow_heap, size_alloc, size_drewN', size_ext, ltA0, eqA0, qeA0, ltA1, eqA1, qeA1, ltA2, eqA2, qeA2, ltA3, eqA3, qeA3, ltA4, eqA4, qeA4, ltA5, eqA5, qeA5, ltA6, eqA6, qeA6, ltA7, eqA7, qeA7, ltA8, eqA8, qeA8]; with_reducible rfl))) Try.underlying26 rfl (inE _) ?_) | (go_at_call 15; (go_must (refine (Times_row O O wr).mono ?_); rintro e w1 ⟨rfl, hE1⟩; have c2 := ext_heap hE1 HR2.out.o; have c3 : ∀ o', (w1.setRow m (ec o')).cell? ⟨w.heap.size + 1, j / 32, none⟩ = _ := fun o' => cell_ec (HR2.out.step hE1 o').e (j / 32) (by omega); have c4 := fun o' => (HR2.out.step hE1 o').o; have c5 := fun o' => (HR2.out.step hE1 o').a)))
        have hfin := HR2.out.step hE1 ((O * O : Fp).val : Int)
        rw [← HF2.out] at hfin ⊢
        have HFIN := Lib.hid hfin
        clear hfin
        refine ⟨?_, by simp [intOf]⟩
        cases j with
        | zero => exact .inr ⟨rfl, Lib.hid (by have h := HFIN.out; rw [Nat.pow_zero, Nat.div_one] at h ⊢; exact h)⟩
        | succ j' => exact .inl ⟨j', by omega, by congr 1; omega, Lib.hid HFIN.out⟩
    · have c1 := HR.out.o
      have c2 := HR.out.r
      go_wp2_with (first | (refine wpList_store_row rfl 26 _ _ rfl _ _ rfl rfl _ _ (by (first | assumption | exact c4 _ | exact c5 _ | (simp only [heap_at, heap_past, heap_ext, heap_drewN', setRow_size, setRow_heap, size_alloc, size_drewN', size_ext, ltA0, eqA0, qeA0, ltA1, eqA1, qeA1, ltA2, eqA2, qeA2, ltA3, eqA3, qeA3, ltA4, eqA4, qeA4, ltA5, eqA5, qeA5, ltA6, eqA6, qeA6, ltA7, eqA7, qeA7, ltA8, eqA8, qeA8]; with_reducible rfl))) (inE _) (by rw [ec_size, ec_size]) (ec_one _) ?_) | (refine wpList_load_row rfl 26 _ rfl _ rfl _ _ _ _ (by (first | assumption | exact c4 _ | exact c5 _ | (simp only [heap_at, heap_past, heap_ext, heap_drewN', setRow_size, setRow_heap, size_alloc, size_drewN', size_ext, ltA0, eqA0, qeA0, ltA1, eqA1, qeA1, ltA2, eqA2, qeA2, ltA3, eqA3, qeA3, ltA4, eqA4, qeA4, ltA5, eqA5, qeA5, ltA6, eqA6, qeA6, ltA7, eqA7, qeA7, ltA8, eqA8, qeA8]; with_reducible rfl))) Try.underlying26 rfl (inE _) ?_))
      refine bodyPost_ret (results_cell_row rfl _ _ _ 26 _ (0, 0) _ rfl (setRow_heap _ _ _ _ _ _ c2) Try.underlying26 rfl (inE _)) rfl ⟨rfl, ?_⟩
      exact HR.out.ext.setRow (by omega) _
end Go.Proofs.Ytblhnmahkabmiaa
