/-
  What is proved here: the engine on elements: new blocks, steps, regions, code, calls. No program in sight.
  Conditions: those of each theorem.
-/
import Derived.Test.YtblhnmahkabmiaaEngF
namespace Go.Proofs.Ytblhnmahkabmiaa
open Go Go.RowKit Ecp
set_option linter.unusedSimpArgs false
set_option linter.unusedVariables false

section
variable {P : Program} {D : FD} {β γ : Nat → Nat} {ins : Nat → Fp} {nin np0 L olen : Nat} {w0 : World} {st : FSt} {a : Act} {w : World} {o : Oper}

theorem FR.ext (R : FR β γ ins nin np0 L olen w0 st a w) (g : Gr) : FR β γ ins nin np0 L olen w0 st a (ext w g) := by
  have hb0 : β 0 < w0.heap.size := R.par 0 R.pos
  refine ⟨R.size, R.env, R.dfr, ?_, R.np, R.pos, R.par, R.sep, ?_, R.lns, R.inj, R.out.ext (Nat.lt_of_lt_of_le hb0 R.trn.size) g, R.oL, R.trn.ext hb0 g⟩
  · intro p q i h
    obtain ⟨k1, k2, k3, k4, k5⟩ := R.mem p q i h
    exact ⟨k1, k2, k3, k4, k5.ext (R.blk k2) g⟩
  · intro p h1 h2
    obtain ⟨k1, k2, k3, k4⟩ := R.loc p h1 h2
    exact ⟨k1, by rw [size_ext]; omega, k3, fun len hl => (k4 len hl).ext k2 g⟩

theorem val_updF {v : FV} {m x y : Nat} (h : v.lt m) : v.val (updN β m x) (updN γ m y) = v.val β γ := by
  cases v with
  | ptr p q =>
    have hp : p < m := h
    simp only [FV.val]
    rw [updN_off _ _ _ _ (by omega), updN_off _ _ _ _ (by omega)]
  | _ => rfl

theorem lookP_app {l m : MemF} {p q i : Nat} (h : lookP (l ++ m) p q = some i) : lookP l p q = some i ∨ lookP m p q = some i := by
  induction l with
  | nil => exact .inr h
  | cons x l ih =>
    obtain ⟨⟨p', q'⟩, j⟩ := x
    simp only [List.cons_append, lookP] at h ⊢
    split at h
    · rename_i he
      rw [if_pos he]; exact .inl h
    · rename_i he
      rw [if_neg he]; exact ih h

theorem look_new {np n len : Nat} {p q i : Nat} (h : lookP (if Nat.beq len 12 then [((np, 0), n), ((np, 4), n), ((np, 8), n)] else [((np, 0), n)]) p q = some i) :
    p = np ∧ i = n ∧ (q = 0 ∨ (len = 12 ∧ (q = 4 ∨ q = 8))) := by
  split at h
  · rename_i hl
    have hl := Nat.eq_of_beq_eq_true hl
    simp only [lookP] at h
    split at h
    · rename_i he
      simp only [Bool.and_eq_true] at he
      exact ⟨(Nat.eq_of_beq_eq_true he.1).symm, (Option.some.inj h).symm, .inl (Nat.eq_of_beq_eq_true he.2).symm⟩
    · split at h
      · rename_i he
        simp only [Bool.and_eq_true] at he
        exact ⟨(Nat.eq_of_beq_eq_true he.1).symm, (Option.some.inj h).symm, .inr ⟨hl, .inl (Nat.eq_of_beq_eq_true he.2).symm⟩⟩
      · split at h
        · rename_i he
          simp only [Bool.and_eq_true] at he
          exact ⟨(Nat.eq_of_beq_eq_true he.1).symm, (Option.some.inj h).symm, .inr ⟨hl, .inr (Nat.eq_of_beq_eq_true he.2).symm⟩⟩
        · cases h
  · simp only [lookP] at h
    split at h
    · rename_i he
      simp only [Bool.and_eq_true] at he
      exact ⟨(Nat.eq_of_beq_eq_true he.1).symm, (Option.some.inj h).symm, .inl (Nat.eq_of_beq_eq_true he.2).symm⟩
    · cases h

theorem FR.newB0 (R : FR β γ ins nin np0 L olen w0 st a w) {len d b : Nat} {e : FEx} {st' : FSt} {w' : World} (h : newB nin st len e d = some st') (hE : Ext w w') (h1 : w0.heap.size ≤ b) (hne : ∀ p, p < st.np → β p ≠ b) (h2 : b < w'.heap.size)
    (hF : Free w' b 0 len) (hx : ∀ q, (q = 0 ∨ (len = 12 ∧ (q = 4 ∨ q = 8))) → Elt w' b q (evF (denF ins nin st.defs) e)) :
    FR (updN β st.np b) (updN γ st.np 0) ins nin np0 L olen w0 st' (a.put (some d) (.pointer (some ⟨b, 0, none⟩))) w' := by
  obtain ⟨g, rfl⟩ := hE
  have R1 := R.ext g
  unfold newB at h
  split at h
  case isFalse => cases h
  rename_i hd
  have hd : d < st.sz := by simpa [Nat.blt_eq] using hd
  have hst := Option.some.inj h
  have hnp := R.np
  have hpos := R.pos
  have ob : ∀ p, p < st.np → updN β st.np b p = β p := fun p hp => updN_off _ _ _ _ (by omega)
  have og : ∀ p, p < st.np → updN γ st.np 0 p = γ p := fun p hp => updN_off _ _ _ _ (by omega)
  have nb : updN β st.np b st.np = b := updN_at ..
  have ng : updN γ st.np 0 st.np = 0 := updN_at ..
  have R2 : FR (updN β st.np b) (updN γ st.np 0) ins nin np0 L olen w0 { st with np := st.np + 1, defs := e :: st.defs, mem := (if Nat.beq len 12 then [((st.np, 0), nin + st.defs.length), ((st.np, 4), nin + st.defs.length), ((st.np, 8), nin + st.defs.length)] else [((st.np, 0), nin + st.defs.length)]) ++ st.mem, lens := (st.np, len) :: st.lens } a (Go.Proofs.Ytblhnmahkabmiaa.ext w g) := by
    refine ⟨R.size, ?_, R.dfr, ?_, by show np0 ≤ st.np + 1; omega, R.pos, ?_, ?_, ?_, ?_, ?_, ?_, R.oL, ?_⟩
    · intro t v ht
      obtain ⟨k1, k2⟩ := R.env t v ht
      exact ⟨by rw [val_updF k2]; exact k1, FV.lt_mono (Nat.le_succ _) k2⟩
    · intro p q i hl
      rcases lookP_app hl with hl | hl
      · obtain ⟨rfl, rfl, hq⟩ := look_new hl
        refine ⟨by simp, by simp, by omega, fun hlt => by omega, ?_⟩
        rw [nb, ng, Nat.zero_add, denF_last]
        exact hx q hq
      · obtain ⟨k1, k2, k3, k4, k5⟩ := R1.mem p q i hl
        refine ⟨by simp only [List.length_cons]; omega, Nat.lt_succ_of_lt k2, k3, k4, ?_⟩
        rw [ob p k2, og p k2, denF_lt k1]
        exact k5
    · intro p hp
      rw [ob p (by omega)]
      exact R.par p hp
    · intro p hp0 hp
      rw [ob p (by omega), og p (by omega), ob 0 (by omega), og 0 (by omega)]
      exact R.sep p hp0 hp
    · intro p hp hp'
      have hsz := R.trn.size
      by_cases hpn : p = st.np
      · subst hpn
        rw [nb, ng]
        refine ⟨by omega, h2, rfl, fun len' hl => ?_⟩
        simp only [lookL] at hl
        rw [if_pos (Nat.beq_refl _)] at hl
        obtain rfl := Option.some.inj hl
        exact hF
      · have hlt : p < st.np := by have : p < st.np + 1 := hp'; omega
        rw [ob p hlt, og p hlt]
        obtain ⟨k1, k2, k3, k4⟩ := R1.loc p hp hlt
        refine ⟨k1, k2, k3, fun len' hl => ?_⟩
        simp only [lookL] at hl
        rw [if_neg (fun e => hpn (Nat.eq_of_beq_eq_true e).symm)] at hl
        exact k4 len' hl
    · intro p len' hl
      simp only [lookL] at hl
      split at hl
      · rename_i he
        have := Nat.eq_of_beq_eq_true he
        show p < st.np + 1
        omega
      · exact Nat.lt_succ_of_lt (R.lns p len' hl)
    · intro p q hp hp' hq hq' he
      have hp' : p < st.np + 1 := hp'
      have hq' : q < st.np + 1 := hq'
      by_cases hpn : p = st.np
      · by_cases hqn : q = st.np
        · omega
        · have hlt : q < st.np := by omega
          subst hpn
          rw [nb, ob q hlt] at he
          exact absurd he.symm (hne q hlt)
      · have hlt : p < st.np := by omega
        by_cases hqn : q = st.np
        · subst hqn
          rw [nb, ob p hlt] at he
          exact absurd he (hne p hlt)
        · have hltq : q < st.np := by omega
          rw [ob p hlt, ob q hltq] at he
          exact R.inj p q hp hlt hq hltq he
    · rw [ob 0 (by omega), og 0 (by omega)]
      exact R1.out
    · rw [ob 0 (by omega), og 0 (by omega)]
      exact R1.trn
  have R3 := R2.put (d := d) (v := .ptr st.np 0) hd (Nat.lt_succ_self _)
  rw [← hst]
  simp only [FV.val, nb, ng, Nat.add_zero] at R3
  exact R3

theorem FR.newB (R : FR β γ ins nin np0 L olen w0 st a w) {len d b : Nat} {e : FEx} {st' : FSt} {w' : World} (h : newB nin st len e d = some st') (hE : Ext w w') (h1 : w.heap.size ≤ b) (h2 : b < w'.heap.size)
    (hF : Free w' b 0 len) (hx : ∀ q, (q = 0 ∨ (len = 12 ∧ (q = 4 ∨ q = 8))) → Elt w' b q (evF (denF ins nin st.defs) e)) :
    FR (updN β st.np b) (updN γ st.np 0) ins nin np0 L olen w0 st' (a.put (some d) (.pointer (some ⟨b, 0, none⟩))) w' :=
  R.newB0 h hE (Nat.le_trans R.trn.size h1) (fun p hp e => by have := R.blk hp; omega) h2 hF hx

theorem pureF_sound (S : EngF P D) (R : FR β γ ins nin np0 L olen w0 st a w) {v : FV} (h : pureF D st o = some v) : v.lt st.np ∧ ∀ w', (execOp a.eval o).run P w' = .ok (.value (v.val β γ)) w' := by
  unfold pureF at h
  split at h
  · rename_i x ho
    obtain ⟨h1, h2⟩ := opF_sound R h
    refine ⟨h2, fun w' => ?_⟩
    unfold execOp
    simp only [ho, h1]
    rfl
  · rename_i x ho
    obtain ⟨h1, h2⟩ := opF_sound R h
    refine ⟨h2, fun w' => ?_⟩
    unfold execOp
    simp only [ho, h1]
    rfl
  · rename_i x ho
    split at h
    · rename_i p q hv
      obtain rfl := Option.some.inj h
      obtain ⟨h1, h2⟩ := opF_sound R hv
      refine ⟨h2, fun w' => ?_⟩
      unfold execOp
      simp only [ho, h1, FV.val]
      rfl
    · cases h
  · rename_i t x k ho
    split at h
    · rename_i p q off hv hf
      obtain rfl := Option.some.inj h
      obtain ⟨h1, h2⟩ := opF_sound R hv
      refine ⟨h2, fun w' => ?_⟩
      unfold execOp
      simp only [ho, h1, FV.val, Sem.run_bind, S.hfld t k off hf _ _ w', Result.andThen_ok, Sem.run_pure, Nat.add_assoc]
    · cases h
  · cases h

theorem map1 {A B : Type} {f : A → B} {l : List A} {a : B} (h : l.map f = [a]) : ∃ x, l = [x] ∧ f x = a := by
  rcases l with _ | ⟨x, _ | ⟨u, l⟩⟩ <;> simp at h
  exact ⟨x, rfl, h⟩

theorem Elt.zero {w : World} {b o len : Nat} (t : TypeId) (hb : w.heap[b]? = some (.cells (List.replicate len (Value.int .u64 0)).toArray t)) (hl : o + 4 ≤ len) : Elt w b o 0 := by
  unfold Elt
  rw [qds_zero]
  intro i x hi
  have hlt := (List.getElem?_eq_some_iff.1 hi).1
  have hlt : i < 4 := hlt
  have hlt' : o + i < len := Nat.lt_of_lt_of_le (Nat.add_lt_add_left hlt o) hl
  have hx : x = 0 := by
    match i, hi with
    | 0, hi => simpa using hi.symm
    | 1, hi => simpa using hi.symm
    | 2, hi => simpa using hi.symm
    | 3, hi => simpa using hi.symm
  subst hx
  simp [World.cell?, hb, List.getElem?_replicate, hlt']
theorem Free.zero {w : World} {b len : Nat} (t : TypeId) (hb : w.heap[b]? = some (.cells (List.replicate len (Value.int .u64 0)).toArray t)) : Free w b 0 len := by
  intro i hi
  refine ⟨⟨.int .u64 0, ?_⟩, ?_⟩
  · simp [World.cell?, hb, List.getElem?_replicate, hi]
  · simp [World.frozen?, hb]

end
end Go.Proofs.Ytblhnmahkabmiaa
