/-
  What is proved here: the engine's code, whole. No program in sight.
  Conditions: those of each theorem.
-/
import Derived.Test.YtblhnmahkabmiaaEngB
namespace Go.Proofs.Ytblhnmahkabmiaa
open Go Go.RowKit
set_option linter.unusedSimpArgs false
set_option linter.unusedVariables false

def updN (f : Nat → Nat) (n x : Nat) : Nat → Nat := fun i => if i = n then x else f i
theorem updN_at (f : Nat → Nat) (n x : Nat) : updN f n x n = x := if_pos rfl
theorem updN_off (f : Nat → Nat) (n i x : Nat) (h : i ≠ n) : updN f n x i = f i := if_neg h

section
variable {P : Program} {D : EngD} {β γ : Nat → Nat} {ρ : Nat → Int} {st : St} {a : Act} {o : Oper} {np0 olen : Nat} {w0 w : World}

theorem val_updN {sv : SV} {n m x y : Nat} (h : sv.lt n m) : sv.val (updN β m x) (updN γ m y) ρ = sv.val β γ ρ := by
  cases sv with
  | num k s => rfl
  | pair a b => rfl
  | ptr p o =>
    have : p ≠ m := Nat.ne_of_lt h
    simp only [SV.val, updN_off _ _ _ _ this]

/-- A new word. -/
theorem wrel_alloc (R : Rel β γ ρ st a) (W : WRel β γ ρ np0 olen w0 st w) {d : Nat} (hd : d < st.size) (t : TypeId) :
    Rel (updN β st.np w.heap.size) (updN γ st.np 0) ρ { st with np := st.np + 1, env := (d, .ptr st.np 0) :: st.env, mem := ((st.np, 0), (.u64, .c 0)) :: st.mem } (a.put (some d) (.pointer (some ⟨w.heap.size, 0, none⟩))) ∧
    WRel (updN β st.np w.heap.size) (updN γ st.np 0) ρ np0 olen w0 { st with np := st.np + 1, env := (d, .ptr st.np 0) :: st.env, mem := ((st.np, 0), (.u64, .c 0)) :: st.mem } (w.alloc (.cells #[.int .u64 0] t)) := by
  have hsz : d < a.tmps.size := by rw [R.size]; exact hd
  have hw0 : w0.heap.size ≤ w.heap.size := W.away.2.2.2.1
  have hnp := W.np
  have hpos := W.pos
  have hb0 := W.par 0 W.pos
  have b0 : updN β st.np w.heap.size 0 = β 0 := updN_off _ _ _ _ (by omega)
  have g0 : updN γ st.np 0 0 = γ 0 := updN_off _ _ _ _ (by omega)
  refine ⟨⟨?_, ?_, R.bound, R.defs, ?_, R.dfr⟩, ⟨?_, by simp only; omega, W.pos, ?_, ?_, ?_, ?_, ?_, ?_, ?_⟩⟩
  · simp [Act.put, R.size]
  · intro t' sv' ht
    simp only [lookE] at ht
    split at ht
    · rename_i he
      obtain rfl : d = t' := Nat.eq_of_beq_eq_true he
      obtain rfl := Option.some.inj ht
      refine ⟨?_, Nat.lt_succ_self _⟩
      simp [Act.put, hsz, SV.val, updN_at]
    · rename_i he
      have hne : d ≠ t' := fun e => he (by rw [e]; exact Nat.beq_refl t')
      obtain ⟨k1, k2⟩ := R.env t' sv' ht
      refine ⟨?_, SV.lt_mono (Nat.le_refl _) (Nat.le_succ _) k2⟩
      rw [val_updN k2]
      simp only [Act.put]
      rw [Array.getElem?_setIfInBounds_ne hne]
      exact k1
  · intro p o' k s h
    simp only [lookM] at h
    split at h
    · rename_i he
      simp only [Bool.and_eq_true] at he
      obtain ⟨rfl, rfl⟩ := Prod.mk.inj (Option.some.inj h)
      exact ⟨trivial, (Nat.eq_of_beq_eq_true he.1) ▸ Nat.lt_succ_self _⟩
    · obtain ⟨k1, k2⟩ := R.lts p o' k s h
      exact ⟨k1, Nat.lt_succ_of_lt k2⟩
  · intro p o' k s h
    simp only [lookM] at h
    split at h
    · rename_i he
      simp only [Bool.and_eq_true] at he
      have e1 := Nat.eq_of_beq_eq_true he.1
      have e2 := Nat.eq_of_beq_eq_true he.2
      subst e1 e2
      obtain ⟨rfl, rfl⟩ := Prod.mk.inj (Option.some.inj h)
      rw [updN_at, updN_at, Nat.zero_add, World.cell?_alloc_new]
      rfl
    · have hlt := (R.lts p o' k s h).2
      have hne : p ≠ st.np := Nat.ne_of_lt hlt
      rw [updN_off _ _ _ _ hne, updN_off _ _ _ _ hne]
      have hbl : β p < w.heap.size := by
        rcases Nat.lt_or_ge p np0 with h4 | h4
        · have := W.par p h4; omega
        · exact (W.loc p h4 hlt).2.1
      rw [cell_al1 hbl]
      exact W.mem p o' k s h
  · intro p hp
    rw [updN_off _ _ _ _ (by omega)]
    exact W.par p hp
  · intro p h1 h2
    by_cases e : p = st.np
    · subst e
      rw [updN_at, updN_at]
      refine ⟨hw0, by simp, rfl, ⟨.int .u64 0, by rw [World.cell?_alloc_new]; rfl⟩, by simp⟩
    · have h2' : p < st.np := by simp only at h2; omega
      obtain ⟨k1, k2, k3, k4, k5⟩ := W.loc p h1 h2'
      rw [updN_off _ _ _ _ e, updN_off _ _ _ _ e]
      refine ⟨k1, by simp; omega, k3, ?_, ?_⟩
      · rw [cell_al1 k2]; exact k4
      · rw [World.frozen?_alloc_old]
        · exact k5
        · show β p ≠ w.heap.size
          omega
  · intro p q h1 h2 h3 h4 e
    simp only at h2 h4
    by_cases e1 : p = st.np <;> by_cases e2 : q = st.np
    · omega
    · subst e1
      rw [updN_at, updN_off _ _ _ _ e2] at e
      have := (W.loc q h3 (by omega)).2.1
      omega
    · subst e2
      rw [updN_at, updN_off _ _ _ _ e1] at e
      have := (W.loc p h1 (by omega)).2.1
      omega
    · rw [updN_off _ _ _ _ e1, updN_off _ _ _ _ e2] at e
      exact W.inj p q h1 (by omega) h3 (by omega) e
  · intro i hi
    rw [b0, g0, cell_al1 (by omega)]
    refine ⟨(W.out i hi).1, ?_⟩
    rw [World.frozen?_alloc_old]
    · exact (W.out i hi).2
    · show β 0 ≠ w.heap.size
      omega
  · rw [b0]; exact W.away.alloc _
  · intro i hi
    rw [g0] at hi
    rw [b0, cell_al1 (by omega)]
    exact W.keep i hi
  · intro i
    rw [b0, World.frozen?_alloc_old]
    · exact W.frz i
    · show β 0 ≠ w.heap.size
      omega

/-- Pure steps leave memory as it was. -/
theorem WRel.pure (W : WRel β γ ρ np0 olen w0 st w) {ρ' : Nat → Int} {st' : St} (hm : st'.mem = st.mem) (hn : st'.np = st.np) (hM : MemOk β γ ρ' st' w) : WRel β γ ρ' np0 olen w0 st' w :=
  ⟨hM, by rw [hn]; exact W.np, W.pos, W.par, fun p h1 h2 => W.loc p h1 (by rw [← hn]; exact h2), fun p q h1 h2 h3 h4 => W.inj p q h1 (by rw [← hn]; exact h2) h3 (by rw [← hn]; exact h4), W.out, W.away, W.keep, W.frz⟩
theorem WRel.drewN (W : WRel β γ ρ np0 olen w0 st w) (k : Nat) : WRel β γ ρ np0 olen w0 st (w.drewN k) :=
  ⟨W.mem, W.np, W.pos, W.par, W.loc, W.inj, W.out, W.away, W.keep, W.frz⟩

/-- What a step that may turn memory gives. -/
def Goes (β γ : Nat → Nat) (ρ : Nat → Int) (np0 olen : Nat) (w0 : World) (st st' : St) (next : Act → World → Prop) : Prop :=
  ∀ β' γ' ρ' a' w', (∀ p, p < np0 → β' p = β p ∧ γ' p = γ p) → Agree st.n ρ ρ' → Rel β' γ' ρ' st' a' → WRel β' γ' ρ' np0 olen w0 st' w' → next a' w'

theorem map4 {A B : Type} {f : A → B} {l : List A} {a b c d : B} (h : l.map f = [a, b, c, d]) : ∃ x y z u, l = [x, y, z, u] ∧ f x = a ∧ f y = b ∧ f z = c ∧ f u = d := by
  rcases l with _ | ⟨x, _ | ⟨y, _ | ⟨z, _ | ⟨u, _ | ⟨t, l⟩⟩⟩⟩⟩ <;> simp at h
  exact ⟨x, y, z, u, rfl, h.1, h.2.1, h.2.2.1, h.2.2.2⟩

theorem put_none (a : Act) (v : Value) : a.put none v = a := rfl

/-- The conditional move into a word of the call's own. -/
theorem rel_cmov (R : Rel β γ ρ st a) {d : Nat} {b x y : Src} (hb : b.lt st.n) (hx : x.lt st.n) (hy : y.lt st.n) (bx : 0 ≤ den ρ x ∧ den ρ x < 18446744073709551616) (by_ : 0 ≤ den ρ y ∧ den ρ y < 18446744073709551616)
    (hd : lookE st.env d = none) (v : Value) : ∃ ρ', Agree st.n ρ ρ' ∧ ρ' st.n = (if den ρ b = 0 then den ρ x else den ρ y) ∧ Rel β γ ρ' { st with n := st.n + 1, defs := .cmov b x y :: st.defs } (a.put (some d) v) := by
  have hA := upd_agree ρ st.n (if den ρ b = 0 then den ρ x else den ρ y)
  have hv : upd ρ st.n (if den ρ b = 0 then den ρ x else den ρ y) st.n = (if den ρ b = 0 then den ρ x else den ρ y) := upd_at ..
  generalize upd ρ st.n (if den ρ b = 0 then den ρ x else den ρ y) = ρ' at hA hv
  refine ⟨ρ', hA, hv, ⟨?_, ?_, ?_, ?_, ?_, R.dfr⟩⟩
  · simp [Act.put, R.size]
  · intro t sv ht
    have hne : d ≠ t := by rintro rfl; rw [hd] at ht; cases ht
    obtain ⟨k1, k2⟩ := R.env t sv ht
    refine ⟨?_, SV.lt_mono (Nat.le_succ _) (Nat.le_refl _) k2⟩
    rw [hA.val k2]
    simp only [Act.put]
    rw [Array.getElem?_setIfInBounds_ne hne]
    exact k1
  · intro i hi
    by_cases h : i < st.n
    · rw [hA i h]; exact R.bound i h
    · obtain rfl : i = st.n := by simp only at hi; omega
      rw [hv]
      split
      · exact bx
      · exact by_
  · intro i e hi he
    simp only at hi he
    by_cases h : i < st.n
    · rw [show st.n + 1 - 1 - i = (st.n - 1 - i) + 1 by omega, List.getElem?_cons_succ] at he
      obtain ⟨k1, k2, k3⟩ := R.defs i e h he
      refine ⟨?_, Ex.lt_mono (Nat.le_succ _) k2, ?_⟩
      · rw [hA i h, hA.ev k2]; exact k1
      · rw [hA i h]; exact k3
    · obtain rfl : i = st.n := by omega
      rw [show st.n + 1 - 1 - st.n = 0 by omega] at he
      obtain rfl : Ex.cmov b x y = e := by simpa using he
      have hl : (Ex.cmov b x y).lt st.n := ⟨hb, hx, hy⟩
      refine ⟨?_, Ex.lt_mono (Nat.le_succ _) hl, fun h => by cases h⟩
      rw [hA.ev hl, hv]
      rfl
  · intro p q k s hs
    exact ⟨Src.lt_mono (Nat.le_succ _) (R.lts p q k s hs).1, (R.lts p q k s hs).2⟩

theorem stepS_sound (S : EngM P D) (R : Rel β γ ρ st a) (W : WRel β γ ρ np0 olen w0 st w) {st' : St} (h : stepS D np0 olen st o = some st') :
    o.guard = none ∧ st.n ≤ st'.n ∧ ∀ (next : Act → World → Prop) (Q : Exit → Act → World → Prop), Goes β γ ρ np0 olen w0 st st' next → o.wp P a w next Q := by
  unfold stepS at h
  split at h
  · -- store
    rename_i t x y hg hd ho
    split at h
    · rename_i p q k s k' hx hy hw
      obtain ⟨e1, l1⟩ := opnd_sound R hx
      obtain ⟨e2, l2⟩ := opnd_sound R hy
      split at h
      · rename_i hk
        obtain rfl : k = k' := by simpa using hk
        have hwp : ∀ (st1 : St) (u : Value), w.cell? ⟨β p, γ p + q, none⟩ = some u → w.frozen? ⟨β p, γ p + q, none⟩ = false → st1 = st' →
            (Rel β γ ρ st1 a ∧ WRel β γ ρ np0 olen w0 st1 (w.setCell ⟨β p, γ p + q, none⟩ (.int k (den ρ s)))) →
            ∀ (next : Act → World → Prop) (Q : Exit → Act → World → Prop), Goes β γ ρ np0 olen w0 st st' next → o.wp P a w next Q := by
          intro st1 u hu hf hst hRW next Q hG
          subst hst
          unfold Oper.wp execOp
          simp only [ho, e1, e2, SV.val]
          rw [Sem.run_bind, S.hstore t k hw _ _ u w hu hf]
          simp only [Result.andThen_ok, Sem.run_pure, Oper.upon, hd, put_none]
          exact hG β γ ρ a _ (fun _ _ => ⟨rfl, rfl⟩) (fun _ _ => rfl) hRW.1 hRW.2
        split at h
        · rename_i hp0
          obtain rfl : p = 0 := Nat.eq_of_beq_eq_true hp0
          split at h
          · rename_i hq
            have hq' : q < olen := by simpa using hq
            have hst := Option.some.inj h
            refine ⟨hg, by rw [← hst]; exact Nat.le_refl _, ?_⟩
            obtain ⟨⟨u, hu⟩, hf⟩ := W.out q hq'
            exact hwp _ u hu hf hst (wrel_out R W hq' l2)
          · cases h
        · split at h
          · rename_i hp
            simp only [Bool.and_eq_true] at hp
            have hp1 := Nat.le_of_ble_eq_true hp.1
            obtain rfl : q = 0 := Nat.eq_of_beq_eq_true hp.2
            have hst := Option.some.inj h
            refine ⟨hg, by rw [← hst]; exact Nat.le_refl _, ?_⟩
            obtain ⟨k1, k2, k3, ⟨u, k4⟩, k5⟩ := W.loc p hp1 l1
            exact hwp _ u (by rw [k3, Nat.zero_add]; exact k4) (by rw [k3, Nat.zero_add]; exact k5) hst (wrel_loc R W hp1 l1 l2)
          · cases h
      · cases h
    · cases h
  · -- alloc
    rename_i d t hg hd ho
    split at h
    · rename_i hw
      split at h
      · rename_i hlt
        have hst := Option.some.inj h
        refine ⟨hg, by rw [← hst]; exact Nat.le_refl _, fun next Q hG => ?_⟩
        subst hst
        obtain ⟨h1, h2⟩ := wrel_alloc R W (by simpa using hlt) t
        unfold Oper.wp execOp
        simp only [ho]
        rw [Sem.run_bind, S.halloc t hw w]
        simp only [Result.andThen_ok, Sem.run_pure, Oper.upon, hd]
        have hnp := W.np
        exact hG _ _ ρ _ _ (fun p hp => ⟨updN_off _ _ _ _ (by omega), updN_off _ _ _ _ (by omega)⟩) (fun _ _ => rfl) h1 h2
      · cases h
    · cases h
  · -- the conditional move
    rename_i d c hg hd ho
    split at h
    · rename_i f hf
      split at h
      · rename_i p b x y hl
        split at h
        · rename_i hz
          simp only [Bool.and_eq_true] at hz
          obtain ⟨⟨⟨⟨⟨⟨z0, z1⟩, z2⟩, z3⟩, z4⟩, z5⟩, z6⟩ := hz
          obtain rfl : f = D.fcmov := Nat.eq_of_beq_eq_true z1
          have hp := Nat.le_of_ble_eq_true z2
          have hst := Option.some.inj h
          refine ⟨hg, by rw [← hst]; exact Nat.le_succ _, fun next Q hG => ?_⟩
          subst hst
          obtain ⟨o1, o2, o3, o4, hc, hx1, hx2, hx3, hx4⟩ := map4 hl
          obtain ⟨e1, l1⟩ := opnd_sound R hx1
          obtain ⟨e2, l2⟩ := opnd_sound R hx2
          obtain ⟨e3, l3⟩ := opnd_sound R hx3
          obtain ⟨e4, l4⟩ := opnd_sound R hx4
          have b2 := bitOk_bd R z3
          have b3 := srcOk_bd R z4 l3
          have b4 := srcOk_bd R z5 l4
          have hargs : c.args.map a.eval = #[.pointer (some ⟨β p, γ p + 0, none⟩), .int .u64 (den ρ b), .int .u64 (den ρ x), .int .u64 (den ρ y)] := by
            apply Array.toList_inj.1
            rw [Array.toList_map, hc]
            simp [e1, e2, e3, e4, SV.val]
          obtain ⟨k1, k2, k3, ⟨u, k4⟩, k5⟩ := W.loc p hp l1
          have hlook : lookE st.env d = none := by simpa using z6
          obtain ⟨ρ', hA, hv, R'⟩ := rel_cmov R l2 l3 l4 b3 b4 hlook (.tuple #[])
          have W' : WRel β γ ρ' np0 olen w0 { st with n := st.n + 1, defs := .cmov b x y :: st.defs } w := W.pure rfl rfl (fun p' q' k' s' hs => by
            rw [hA.den (R.lts p' q' k' s' hs).1]; exact W.mem p' q' k' s' hs)
          have hRW := wrel_loc (k := .u64) (s := .v st.n) R' W' hp l1 (Nat.lt_succ_self _)
          unfold Oper.wp
          rw [run_call_func ho hf, hargs, S.ecmov z0]
          simp only [Oper.upon]
          refine (S.hcmov z0 _ _ _ _ u w b2 b3.1 b3.2 b4.1 b4.2 (by rw [k3, Nat.zero_add]; exact k4) (by rw [k3, Nat.zero_add]; exact k5)).mono ?_
          rintro e w' ⟨rfl, rfl⟩
          simp only [hd]
          refine hG β γ ρ' _ _ (fun _ _ => ⟨rfl, rfl⟩) hA hRW.1 ?_
          have := hRW.2
          simp only [den, hv] at this
          exact this
        · cases h
      · cases h
    · cases h
  · cases h

/-- One step, of whichever kind. -/
def stepA (D : EngD) (np0 olen : Nat) (st : St) (o : Oper) : Option St :=
  match stepP D st o with
  | some st' => some st'
  | none => stepS D np0 olen st o
def runA (D : EngD) (np0 olen : Nat) : List Oper → St → Option St
  | [], st => some st
  | o :: l, st => match stepA D np0 olen st o with
    | some st' => runA D np0 olen l st'
    | none => none

theorem Goes.trans {st1 st2 : St} {next : Act → World → Prop} {β' γ' : Nat → Nat} {ρ' : Nat → Int} (h : Goes β γ ρ np0 olen w0 st st2 next) (hp : ∀ p, p < np0 → β' p = β p ∧ γ' p = γ p) (hA : Agree st.n ρ ρ') (hn : st.n ≤ st1.n) :
    Goes β' γ' ρ' np0 olen w0 st1 st2 next :=
  fun β2 γ2 ρ2 a2 w2 h1 h2 R2 W2 => h β2 γ2 ρ2 a2 w2 (fun p hp' => ⟨(h1 p hp').1.trans (hp p hp').1, (h1 p hp').2.trans (hp p hp').2⟩) (hA.trans h2 hn) R2 W2

theorem runA_list (S : EngM P D) {ops : Array Oper} {Q : Exit → Act → World → Prop} : ∀ (l : List Oper) {st : St} {a : Act} {w : World} {β γ : Nat → Nat} {ρ : Nat → Int} {st' : St}, runA D np0 olen l st = some st' → Rel β γ ρ st a → WRel β γ ρ np0 olen w0 st w →
    Goes β γ ρ np0 olen w0 st st' (fun a' w' => Q .normal a' w') → wpList P ops Q l a w
  | [], st, a, w, β, γ, ρ, st', h, R, W, hG => by
    obtain rfl := Option.some.inj h
    exact hG β γ ρ a w (fun _ _ => ⟨rfl, rfl⟩) (fun _ _ => rfl) R W
  | o :: l, st, a, w, β, γ, ρ, st', h, R, W, hG => by
    simp only [runA] at h
    split at h
    · rename_i st1 hs
      unfold stepA at hs
      split at hs
      · rename_i st2 hp
        obtain rfl := Option.some.inj hs
        obtain ⟨hg, hn, hm, hnp, ρ1, v, hA, R1, hM1, hv⟩ := stepP_sound S.toEngS R hp
        refine wpList_plain hg fun K hK => ?_
        refine Oper.wp_of_quiet (C := fun x => x = w) (K := fun a' => wpList P ops Q l a' w) rfl (fun a' w' hw' h' => ?_) ⟨v, fun w' hw' => ?_, ?_⟩
        · obtain rfl := hw'
          exact hK _ _ h'
        · obtain rfl := hw'
          exact hv _ W.mem _ rfl
        · exact runA_list S l h R1 (W.pure hm hnp (hM1 _ W.mem)) (hG.trans (fun _ _ => ⟨rfl, rfl⟩) hA hn)
      · obtain ⟨hg, hn, hgo⟩ := stepS_sound S R W hs
        refine wpList_plain hg fun K hK => ?_
        refine hgo K Q ?_
        intro β' γ' ρ' a' w' hp hA R' W'
        exact hK _ _ (runA_list S l h R' W' (hG.trans hp hA hn))
    · cases h

theorem runP_same (S : EngS P D) : ∀ (l : List Oper) {st : St} {a : Act} {ρ : Nat → Int} {st' : St}, runP D l st = some st' → Rel β γ ρ st a → st.n ≤ st'.n ∧ st'.mem = st.mem ∧ st'.np = st.np
  | [], st, a, ρ, st', h, R => by obtain rfl := Option.some.inj h; exact ⟨Nat.le_refl _, rfl, rfl⟩
  | o :: l, st, a, ρ, st', h, R => by
    simp only [runP] at h
    split at h
    · rename_i st1 hs
      obtain ⟨hg, hn, hm, hnp, ρ1, v, hA, R1, _, _⟩ := stepP_sound S R hs
      obtain ⟨k1, k2, k3⟩ := runP_same S l h R1
      exact ⟨Nat.le_trans hn k1, k2.trans hm, k3.trans hnp⟩
    · cases h

/-- A region whose order is drawn: all of it turns nothing; or all but its last operation. -/
def runD (D : EngD) (np0 olen : Nat) (l : List Oper) (st : St) : Option St :=
  match (if Region.lexB .any l.toArray then runP D l st else none) with
  | some st' => some st'
  | none => if Region.lexTailB .any l.toArray (l.length - 1) then
      match runP D (l.take (l.length - 1)) st with
      | some st1 => runA D np0 olen (l.drop (l.length - 1)) st1
      | none => none
    else none

def runC (D : EngD) (np0 olen : Nat) : Code → St → Option (St × Bool)
  | .skip, st => some (st, false)
  | .ret, st => some (st, true)
  | .region _ ops d, st => match d with
    | false => (runA D np0 olen ops.toList st).map fun s => (s, false)
    | true => (runD D np0 olen ops.toList st).map fun s => (s, false)
  | .seq x y, st => match runC D np0 olen x st with
    | some (st1, false) => runC D np0 olen y st1
    | some (st1, true) => some (st1, true)
    | none => none
  | _, _ => none

theorem drewN_of {w w' : World} (h : ∃ k, w' = w.drewN k) : ∃ k, w' = w.drewN k := h

theorem runD_sound (S : EngM P D) {Q : Exit → Act → World → Prop} {id : Nat} {l : List Oper} {st' : St} (h : runD D np0 olen l st = some st') (R : Rel β γ ρ st a) (W : WRel β γ ρ np0 olen w0 st w)
    (hG : Goes β γ ρ np0 olen w0 st st' (fun a' w' => Q .normal a' w')) : (Code.region id l.toArray true).wp P Q a w := by
  unfold runD at h
  split at h
  · rename_i st2 h2
    obtain rfl := Option.some.inj h
    split at h2
    case isFalse => cases h2
    rename_i hB
    have h := h2
    refine wp_region_quiet_lit S.fol hB ?_
    refine runP_quiet S.toEngS l h R (fun w' hw' => ?_) fun ρ' a' hA R' hM => ?_
    · obtain ⟨k, rfl⟩ := hw'
      exact W.mem
    · intro w' hw'
      obtain ⟨k1, k2, k3⟩ := runP_same S.toEngS l h R
      have hM' := hM w' hw'
      obtain ⟨k, rfl⟩ := hw'
      exact hG β γ ρ' a' _ (fun _ _ => ⟨rfl, rfl⟩) hA R' ((W.drewN k).pure k2 k3 hM')
  · split at h
    · rename_i hB
      split at h
      · rename_i st1 h1
        refine wp_quiet_tail (l.length - 1) S.fol hB ?_
        refine runP_quiet S.toEngS _ h1 R (fun w' hw' => ?_) fun ρ' a' hA R' hM => ?_
        · obtain ⟨k, rfl⟩ := hw'
          exact W.mem
        · intro w' hw'
          obtain ⟨k1, k2, k3⟩ := runP_same S.toEngS _ h1 R
          have hM' := hM w' hw'
          obtain ⟨k, rfl⟩ := hw'
          exact runA_list S _ h R' ((W.drewN k).pure k2 k3 hM') (hG.trans (fun _ _ => ⟨rfl, rfl⟩) hA k1)
      · cases h
    · cases h

theorem runA_n (S : EngM P D) : ∀ (l : List Oper) {st : St} {st' : St}, runA D np0 olen l st = some st' → st.n ≤ st'.n
  | [], st, st', h => by obtain rfl := Option.some.inj h; exact Nat.le_refl _
  | o :: l, st, st', h => by
    simp only [runA] at h
    split at h
    · rename_i st1 hs
      refine Nat.le_trans ?_ (runA_n S l h)
      unfold stepA at hs
      split at hs
      · rename_i st2 hp
        obtain rfl := Option.some.inj hs
        unfold stepP at hp
        split at hp
        · split at hp
          · obtain rfl := Option.some.inj hp
            exact Nat.le_add_right _ _
          · cases hp
        · cases hp
      · unfold stepS at hs
        split at hs
        · split at hs
          · split at hs
            · split at hs
              · split at hs
                · obtain rfl := Option.some.inj hs; exact Nat.le_refl _
                · cases hs
              · split at hs
                · obtain rfl := Option.some.inj hs; exact Nat.le_refl _
                · cases hs
            · cases hs
          · cases hs
        · split at hs
          · split at hs
            · obtain rfl := Option.some.inj hs; exact Nat.le_refl _
            · cases hs
          · cases hs
        · split at hs
          · split at hs
            · split at hs
              · obtain rfl := Option.some.inj hs; exact Nat.le_succ _
              · cases hs
            · cases hs
          · cases hs
        · cases hs
    · cases h
theorem runP_n : ∀ (l : List Oper) {st : St} {st' : St}, runP D l st = some st' → st.n ≤ st'.n
  | [], st, st', h => by obtain rfl := Option.some.inj h; exact Nat.le_refl _
  | o :: l, st, st', h => by
    simp only [runP] at h
    split at h
    · rename_i st1 hp
      refine Nat.le_trans ?_ (runP_n l h)
      unfold stepP at hp
      split at hp
      · split at hp
        · obtain rfl := Option.some.inj hp
          exact Nat.le_add_right _ _
        · cases hp
      · cases hp
    · cases h
theorem runD_n (S : EngM P D) {l : List Oper} {st st' : St} (h : runD D np0 olen l st = some st') : st.n ≤ st'.n := by
  unfold runD at h
  split at h
  · rename_i st2 h2
    obtain rfl := Option.some.inj h
    split at h2
    · exact runP_n _ h2
    · cases h2
  · split at h
    · split at h
      · rename_i st1 h1
        exact Nat.le_trans (runP_n _ h1) (runA_n S _ h)
      · cases h
    · cases h
theorem runC_n (S : EngM P D) : ∀ (c : Code) {st : St} {st' : St} {r : Bool}, runC D np0 olen c st = some (st', r) → st.n ≤ st'.n := by
  intro c
  induction c with
  | skip => intro st st' r h; simp only [runC] at h; obtain ⟨rfl, rfl⟩ := Prod.mk.inj (Option.some.inj h); exact Nat.le_refl _
  | ret => intro st st' r h; simp only [runC] at h; obtain ⟨rfl, rfl⟩ := Prod.mk.inj (Option.some.inj h); exact Nat.le_refl _
  | region id ops d =>
    intro st st' r h
    cases d <;> simp only [runC] at h
    · obtain ⟨s1, h1, h2⟩ := Option.map_eq_some_iff.1 h
      obtain ⟨rfl, rfl⟩ := Prod.mk.inj h2
      exact runA_n S _ h1
    · obtain ⟨s1, h1, h2⟩ := Option.map_eq_some_iff.1 h
      obtain ⟨rfl, rfl⟩ := Prod.mk.inj h2
      exact runD_n S h1
  | seq x y ihx ihy =>
    intro st st' r h
    simp only [runC] at h
    split at h
    · rename_i st1 hx
      exact Nat.le_trans (ihx hx) (ihy h)
    · rename_i st1 hx
      obtain ⟨rfl, rfl⟩ := Prod.mk.inj (Option.some.inj h)
      exact ihx hx
    · cases h
  | _ => intro st st' r h; simp only [runC] at h; cases h

theorem runC_sound (S : EngM P D) : ∀ (c : Code) {Q : Exit → Act → World → Prop} {st : St} {a : Act} {w : World} {β γ : Nat → Nat} {ρ : Nat → Int} {st' : St} {r : Bool}, runC D np0 olen c st = some (st', r) → Rel β γ ρ st a → WRel β γ ρ np0 olen w0 st w →
    Goes β γ ρ np0 olen w0 st st' (fun a' w' => Q (if r then .ret else .normal) a' w') → c.wp P Q a w := by
  intro c
  induction c with
  | skip =>
    intro Q st a w β γ ρ st' r h R W hG
    simp only [runC] at h
    obtain ⟨rfl, rfl⟩ := Prod.mk.inj (Option.some.inj h)
    exact wp_skip (hG β γ ρ a w (fun _ _ => ⟨rfl, rfl⟩) (fun _ _ => rfl) R W)
  | ret =>
    intro Q st a w β γ ρ st' r h R W hG
    simp only [runC] at h
    obtain ⟨rfl, rfl⟩ := Prod.mk.inj (Option.some.inj h)
    exact wp_ret (hG β γ ρ a w (fun _ _ => ⟨rfl, rfl⟩) (fun _ _ => rfl) R W)
  | region id ops d =>
    intro Q st a w β γ ρ st' r h R W hG
    obtain ⟨l⟩ := ops
    cases d <;> simp only [runC] at h
    · obtain ⟨s1, h1, h2⟩ := Option.map_eq_some_iff.1 h
      obtain ⟨rfl, rfl⟩ := Prod.mk.inj h2
      exact wp_region_lit (runA_list S _ h1 R W hG)
    · obtain ⟨s1, h1, h2⟩ := Option.map_eq_some_iff.1 h
      obtain ⟨rfl, rfl⟩ := Prod.mk.inj h2
      exact runD_sound S h1 R W hG
  | seq x y ihx ihy =>
    intro Q st a w β γ ρ st' r h R W hG
    simp only [runC] at h
    split at h
    · rename_i st1 hx
      refine wp_seq (ihx hx R W ?_)
      intro β' γ' ρ' a' w' hp hA R' W'
      exact ihy h R' W' (hG.trans hp hA (runC_n S x hx))
    · rename_i st1 hx
      obtain ⟨rfl, rfl⟩ := Prod.mk.inj (Option.some.inj h)
      refine wp_seq (ihx hx R W ?_)
      intro β' γ' ρ' a' w' hp hA R' W'
      exact hG β' γ' ρ' a' w' hp hA R' W'
    · cases h
  | _ => intro Q st a w β γ ρ st' r h; simp only [runC] at h; cases h

/-- A function that returns nothing, run by the engine. -/
theorem eng_call (S : EngM P D) {f : FuncId} {fn : Func} {c : Code} {args : Array Value} {w : World} {r : Bool} {st' : St} (hf : P.funcs[f]? = some fn) (hb : fn.body = some c) (hres : fn.results = #[])
    (hrun : runC D np0 olen c st = some (st', r)) (R : Rel β γ ρ st { tmps := args ++ Array.replicate (fn.ntmps - args.size) undef, defers := [] }) (W : WRel β γ ρ np0 olen w st w) :
    Calls P f args w fun e w' => e = .returned (.tuple #[]) ∧ ∃ β' γ' ρ' a', (∀ p, p < np0 → β' p = β p ∧ γ' p = γ p) ∧ Agree st.n ρ ρ' ∧ Rel β' γ' ρ' st' a' ∧ WRel β' γ' ρ' np0 olen w st' w' := by
  refine calls_of_wp hf hb (runC_sound S c hrun R W ?_)
  intro β' γ' ρ' a' w' hp hA R' W'
  cases r
  · exact bodyPost_end (results_none hres _ _ _) R'.dfr ⟨rfl, β', γ', ρ', a', hp, hA, R', W'⟩
  · exact bodyPost_ret (results_none hres _ _ _) R'.dfr ⟨rfl, β', γ', ρ', a', hp, hA, R', W'⟩
end
end Go.Proofs.Ytblhnmahkabmiaa
