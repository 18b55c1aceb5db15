/-
  What is proved here: the engine on elements: code, calls, and how it starts at pointers. No program in sight.
  Conditions: those of each theorem.
-/
import Derived.Test.YtnjjelepcnofjaaEngH
namespace Go.Proofs.Ytnjjelepcnofjaa
open Go Go.RowKit Ecp
set_option linter.unusedSimpArgs false
set_option linter.unusedVariables false

section
variable {P : Program} {D : FD} {β γ : Nat → Nat} {ins : Nat → Fp} {nin np0 L olen : Nat} {w0 : World} {st : FSt} {a : Act} {w : World} {o : Oper}

def runCF (D : FD) (nin np0 olen : Nat) : Code → FSt → Option (FSt × Bool)
  | .skip, st => some (st, false)
  | .ret, st => some (st, true)
  | .region _ ops d, st => match d with
    | false => (runL D nin np0 olen ops.toList st).map fun s => (s, false)
    | true => if Region.noSelect ops then (runR D nin np0 olen ops ops.size (Array.replicate ops.size false) st).map fun s => (s, false) else none
  | .seq x y, st => match runCF D nin np0 olen x st with
    | some (st1, false) => runCF D nin np0 olen y st1
    | some (st1, true) => some (st1, true)
    | none => none
  | _, _ => none

theorem runCF_sound (S : EngF P D) : ∀ (c : Code) {Q : Exit → Act → World → Prop} {st : FSt} {a : Act} {w : World} {β γ : Nat → Nat} {st' : FSt} {r : Bool}, runCF D nin np0 olen c st = some (st', r) → FR β γ ins nin np0 L olen w0 st a w →
    FGo β γ ins nin np0 L olen w0 st' (fun a' w' => Q (if r then .ret else .normal) a' w') → c.wp P Q a w := by
  intro c
  induction c with
  | skip =>
    intro Q st a w β γ st' r h R hG
    simp only [runCF] at h
    obtain ⟨rfl, rfl⟩ := Prod.mk.inj (Option.some.inj h)
    exact wp_skip (hG β γ a w (fun _ _ => ⟨rfl, rfl⟩) R)
  | ret =>
    intro Q st a w β γ st' r h R hG
    simp only [runCF] at h
    obtain ⟨rfl, rfl⟩ := Prod.mk.inj (Option.some.inj h)
    exact wp_ret (hG β γ a w (fun _ _ => ⟨rfl, rfl⟩) R)
  | region id ops d =>
    intro Q st a w β γ st' r h R hG
    cases d <;> simp only [runCF] at h
    · obtain ⟨s1, h1, h2⟩ := Option.map_eq_some_iff.1 h
      obtain ⟨rfl, rfl⟩ := Prod.mk.inj h2
      obtain ⟨l⟩ := ops
      exact wp_region_lit (runL_sound S _ h1 R hG)
    · split at h
      · rename_i hsel
        obtain ⟨s1, h1, h2⟩ := Option.map_eq_some_iff.1 h
        obtain ⟨rfl, rfl⟩ := Prod.mk.inj h2
        refine Code.wp_mono (Q := fun e a w => e = .normal ∧ Q .normal a w) (fun e a w he => by obtain ⟨rfl, he⟩ := he; exact he) ?_
        refine wp_region_any S.fol ?_
        refine runR_sound S hsel (fun c a w hc => by cases hc.1) _ h1 (R.drewN 1) ?_
        intro β' γ' a' w' hp R'
        exact ⟨rfl, hG β' γ' a' w' hp R'⟩
      · cases h
  | seq x y ihx ihy =>
    intro Q st a w β γ st' r h R hG
    simp only [runCF] at h
    split at h
    · rename_i st1 hx
      refine wp_seq (ihx hx R ?_)
      intro β' γ' a' w' hp R'
      exact ihy h R' (hG.move hp)
    · rename_i st1 hx
      obtain ⟨rfl, rfl⟩ := Prod.mk.inj (Option.some.inj h)
      exact wp_seq (ihx hx R hG)
    · cases h
  | _ => intro Q st a w β γ st' r h; simp only [runCF] at h; cases h

/-- A function that returns one slot, run by the engine. -/
theorem engF_call (S : EngF P D) {f : FuncId} {fn : Func} {c : Code} {args : Array Value} {r : Bool} {st' : FSt} {t : Nat} {v : FV} (hf : P.funcs[f]? = some fn) (hb : fn.body = some c) (hres : fn.results = #[.tmp t])
    (hrun : runCF D nin np0 olen c st = some (st', r)) (hv : lookL st'.env t = some v) (R : FR β γ ins nin np0 L olen w st { tmps := args ++ Array.replicate (fn.ntmps - args.size) undef, defers := [] } w) :
    Calls P f args w fun e w' => ∃ β' γ' a', e = .returned (v.val β' γ') ∧ (∀ p, p < np0 → β' p = β p ∧ γ' p = γ p) ∧ FR β' γ' ins nin np0 L olen w st' a' w' := by
  refine calls_of_wp hf hb (runCF_sound S c hrun R ?_)
  intro β' γ' a' w' hp R'
  have hr : (results fn a'.tmps).run P w' = .ok (v.val β' γ') w' := by
    rw [results_tmp hres, Array.getD_eq_getD_getElem?, (R'.env t v hv).1]
    rfl
  cases r
  · exact bodyPost_end hr R'.dfr ⟨β', γ', a', rfl, hp, R'⟩
  · exact bodyPost_ret hr R'.dfr ⟨β', γ', a', rfl, hp, R'⟩

/-! Starts. -/
theorem lookL_mem {A : Type} : ∀ {l : List (Nat × A)} {t : Nat} {v : A}, lookL l t = some v → (t, v) ∈ l
  | (t', v') :: l, t, v, h => by
    simp only [lookL] at h
    split at h
    · rename_i he
      obtain rfl := Nat.eq_of_beq_eq_true he
      obtain rfl := Option.some.inj h
      exact List.mem_cons_self
    · exact List.mem_cons_of_mem _ (lookL_mem h)
theorem lookP_mem : ∀ {l : MemF} {p q i : Nat}, lookP l p q = some i → ((p, q), i) ∈ l
  | ((p', q'), j) :: l, p, q, i, h => by
    simp only [lookP] at h
    split at h
    · rename_i he
      simp only [Bool.and_eq_true] at he
      have e1 := Nat.eq_of_beq_eq_true he.1
      have e2 := Nat.eq_of_beq_eq_true he.2
      subst e1 e2
      obtain rfl := Option.some.inj h
      exact List.mem_cons_self
    · exact List.mem_cons_of_mem _ (lookP_mem h)

/-- The start: slots that hold parameters, places that hold the names that came in. -/
theorem FR.start {sz nin np0 L olen : Nat} {env : List (Nat × FV)} {mem : MemF} {args : Array Value} {n : Nat} (hn : n = sz) (hsz : args.size ≤ sz)
    (henv : ∀ t v, (t, v) ∈ env → t < args.size ∧ args[t]? = some (v.val β γ) ∧ v.lt np0) (hpos : 0 < np0)
    (hmem : ∀ p q i, ((p, q), i) ∈ mem → i < nin ∧ p < np0 ∧ q % 4 = 0 ∧ q + 4 ≤ L ∧ Elt w (β p) (γ p + q) (ins i))
    (hpar : ∀ p, p < np0 → β p < w.heap.size) {al : Bool} (hsep : ∀ p, 0 < p → p < np0 → β p ≠ β 0 ∨ (al = true ∧ γ p = γ 0) ∨ γ p + L ≤ γ 0 ∨ γ 0 + L ≤ γ p) (hout : Free w (β 0) (γ 0) olen) (hoL : olen ≤ L) :
    FR β γ ins nin np0 L olen w { sz := sz, np := np0, env := env, defs := [], mem := mem, lens := [], al := al } { tmps := args ++ Array.replicate (n - args.size) undef, defers := [] } w := by
  refine ⟨?_, ?_, rfl, ?_, Nat.le_refl _, hpos, hpar, hsep, ?_, ?_, ?_, hout, hoL, Turned.refl _ _ _ _⟩
  · simp; omega
  · intro t v ht
    obtain ⟨h1, h2, h3⟩ := henv t v (lookL_mem ht)
    exact ⟨by rw [Array.getElem?_append_left h1]; exact h2, h3⟩
  · intro p q i h
    obtain ⟨h1, h2, h3, h4, h5⟩ := hmem p q i (lookP_mem h)
    exact ⟨h1, h2, h3, fun _ => h4, h5⟩
  · intro p h1 h2
    simp only at h2
    omega
  · intro p len h
    simp [lookL] at h
  · intro p q h1 h2
    simp only at h2
    omega
end
end Go.Proofs.Ytnjjelepcnofjaa
