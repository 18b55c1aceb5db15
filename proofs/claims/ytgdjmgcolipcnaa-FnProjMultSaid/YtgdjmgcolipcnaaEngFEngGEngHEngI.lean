/-
  What is proved here: an engine that runs straight-line code on elements of the field by name, and that what it says is what the code does. No program in sight.
  Conditions: those of each theorem.
-/
import Derived.Test.YtgdjmgcolipcnaaElt
import Derived.RegionTactic
namespace Go.Proofs.Ytgdjmgcolipcnaa
open Go Go.RowKit Ecp
set_option linter.unusedSimpArgs false
set_option linter.unusedVariables false

/-- What a slot holds. -/
inductive FV where
  | ptr (p o : Nat)
  | nil
  | int (k : IntKind) (z : Int)
  | unit
/-- What a name stands for. -/
inductive FEx where
  | mul (i j : Nat)
  | add (i j : Nat)
  | sub (i j : Nat)
  | sqn (i k : Nat)
  | one
  | zero
  | cb
/-- The kinds of functions that the engine knows. -/
inductive FK where
  | mul
  | add
  | sub
  | sq
  | set
  | one
  | sel
  | b
  | sqn

def evF (ρ : Nat → Fp) : FEx → Fp
  | .mul i j => ρ i * ρ j
  | .add i j => ρ i + ρ j
  | .sub i j => ρ i - ρ j
  | .sqn i k => fpow (ρ i) (2 ^ k)
  | .one => 1
  | .zero => 0
  | .cb => cB
def denF (ins : Nat → Fp) (nin : Nat) : List FEx → Nat → Fp
  | [], i => ins i
  | e :: ds, i => if i = nin + ds.length then evF (denF ins nin ds) e else denF ins nin ds i
theorem denF_lt {ins : Nat → Fp} {nin : Nat} {e : FEx} {ds : List FEx} {i : Nat} (h : i < nin + ds.length) : denF ins nin (e :: ds) i = denF ins nin ds i := by
  simp only [denF]; rw [if_neg (by omega)]
theorem denF_last {ins : Nat → Fp} {nin : Nat} {e : FEx} {ds : List FEx} : denF ins nin (e :: ds) (nin + ds.length) = evF (denF ins nin ds) e := by
  show (if nin + ds.length = nin + ds.length then _ else _) = _
  exact if_pos rfl
theorem denF_in {ins : Nat → Fp} {nin : Nat} : ∀ {ds : List FEx} {i : Nat}, i < nin → denF ins nin ds i = ins i
  | [], i, h => rfl
  | e :: ds, i, h => by rw [denF_lt (by omega)]; exact denF_in h

def FEx.below (n : Nat) : FEx → Bool
  | .mul i j => Nat.blt i n && Nat.blt j n
  | .add i j => Nat.blt i n && Nat.blt j n
  | .sub i j => Nat.blt i n && Nat.blt j n
  | .sqn i _ => Nat.blt i n
  | _ => true
def inScope (nin : Nat) : List FEx → Bool
  | [] => true
  | e :: ds => e.below (nin + ds.length) && inScope nin ds
theorem evF_congr {ρ ρ' : Nat → Fp} {n : Nat} {e : FEx} (h : e.below n = true) (hr : ∀ i, i < n → ρ i = ρ' i) : evF ρ e = evF ρ' e := by
  have lt : ∀ {i : Nat}, Nat.blt i n = true → i < n := fun h => by simpa [Nat.blt_eq] using h
  cases e <;> simp only [FEx.below, Bool.and_eq_true] at h <;> simp only [evF]
  case mul => rw [hr _ (lt h.1), hr _ (lt h.2)]
  case add => rw [hr _ (lt h.1), hr _ (lt h.2)]
  case sub => rw [hr _ (lt h.1), hr _ (lt h.2)]
  case sqn => rw [hr _ (lt h)]
theorem FEx.below_mono {n n' : Nat} (hn : n ≤ n') {e : FEx} (h : e.below n = true) : e.below n' = true := by
  have lt : ∀ {i m : Nat}, Nat.blt i m = true ↔ i < m := by intro i m; simp [Nat.blt_eq]
  cases e <;> simp only [FEx.below, Bool.and_eq_true, lt] at h ⊢ <;> omega
theorem inScope_below {nin : Nat} : ∀ {ds : List FEx} (hs : inScope nin ds = true) {i : Nat} {e : FEx}, i < ds.length → ds[ds.length - 1 - i]? = some e → e.below (nin + ds.length) = true
  | [], _, i, e, h, _ => by simp at h
  | d :: ds, hs, i, e, h, he => by
    simp only [inScope, Bool.and_eq_true] at hs
    by_cases hi : i = ds.length
    · subst hi
      simp only [List.length_cons, Nat.add_sub_cancel, Nat.sub_self, List.getElem?_cons_zero] at he
      obtain rfl := Option.some.inj he
      exact FEx.below_mono (by simp) hs.1
    · have hi' : i < ds.length := by simp only [List.length_cons] at h; omega
      have he' : ds[ds.length - 1 - i]? = some e := by
        rw [List.length_cons, show ds.length + 1 - 1 - i = (ds.length - 1 - i) + 1 by omega, List.getElem?_cons_succ] at he
        exact he
      exact FEx.below_mono (by simp) (inScope_below hs.2 hi' he')
theorem denF_at {ins : Nat → Fp} {nin : Nat} : ∀ {ds : List FEx} (hs : inScope nin ds = true) {i : Nat} {e : FEx}, i < ds.length → ds[ds.length - 1 - i]? = some e → denF ins nin ds (nin + i) = evF (denF ins nin ds) e
  | [], _, i, e, h, _ => by simp at h
  | d :: ds, hs, i, e, h, he => by
    simp only [inScope, Bool.and_eq_true] at hs
    by_cases hi : i = ds.length
    · subst hi
      simp only [List.length_cons, Nat.add_sub_cancel, Nat.sub_self, List.getElem?_cons_zero] at he
      obtain rfl := Option.some.inj he
      rw [denF_last]
      exact evF_congr hs.1 fun j hj => (denF_lt hj).symm
    · have hi' : i < ds.length := by simp only [List.length_cons] at h; omega
      have he' : ds[ds.length - 1 - i]? = some e := by
        rw [List.length_cons, show ds.length + 1 - 1 - i = (ds.length - 1 - i) + 1 by omega, List.getElem?_cons_succ] at he
        exact he
      rw [denF_lt (by omega), denF_at hs.2 hi' he']
      have hb : e.below (nin + ds.length) = true := inScope_below hs.2 hi' he'
      exact evF_congr hb fun j hj => (denF_lt hj).symm

def FV.val (β γ : Nat → Nat) : FV → Value
  | .ptr p o => .pointer (some ⟨β p, γ p + o, none⟩)
  | .nil => .pointer none
  | .int k z => .int k z
  | .unit => .tuple #[]
def FV.lt (m : Nat) : FV → Prop
  | .ptr p _ => p < m
  | _ => True
theorem FV.lt_mono {m m' : Nat} (h : m ≤ m') {v : FV} (hv : v.lt m) : v.lt m' := by
  cases v <;> first | exact Nat.lt_of_lt_of_le hv h | trivial

/-- The program's own numbers. -/
structure FD where
  kind : Nat → Option FK
  fld : Nat → Nat → Option Nat
  alc : Nat → Option Nat
  ik : IntKind

abbrev MemF := List ((Nat × Nat) × Nat)
structure FSt where
  sz : Nat
  np : Nat
  env : List (Nat × FV)
  defs : List FEx
  mem : MemF
  lens : List (Nat × Nat)
  al : Bool

def lookL {A : Type} : List (Nat × A) → Nat → Option A
  | [], _ => none
  | (t, v) :: l, i => if Nat.beq t i then some v else lookL l i
def lookP : MemF → Nat → Nat → Option Nat
  | [], _, _ => none
  | ((p, o), v) :: l, q, u => if Nat.beq p q && Nat.beq o u then some v else lookP l q u
def stays (al : Bool) (np0 p o p' o' : Nat) : Bool := if Nat.beq p 0 then Nat.ble np0 p' || !Nat.beq o' o || (!al && !Nat.beq p' 0) else !(Nat.beq p' p && Nat.beq o' o)
def keepF (al : Bool) (np0 p o : Nat) : MemF → MemF
  | [] => []
  | ((p', o'), i) :: l => if stays al np0 p o p' o' then ((p', o'), i) :: keepF al np0 p o l else keepF al np0 p o l
theorem lookP_keepF {al : Bool} {np0 p o : Nat} : ∀ {l : MemF} {p' o' i : Nat}, lookP (keepF al np0 p o l) p' o' = some i → stays al np0 p o p' o' = true ∧ lookP l p' o' = some i
  | [], p', o', i, h => by simp [keepF, lookP] at h
  | ((q, u), j) :: l, p', o', i, h => by
    simp only [keepF] at h
    split at h
    · rename_i hk
      simp only [lookP] at h ⊢
      split at h
      · rename_i he
        rw [if_pos he]
        simp only [Bool.and_eq_true] at he
        have e1 := Nat.eq_of_beq_eq_true he.1
        have e2 := Nat.eq_of_beq_eq_true he.2
        subst e1 e2
        exact ⟨hk, h⟩
      · rename_i he
        rw [if_neg he]
        exact lookP_keepF h
    · rename_i hk
      obtain ⟨h1, h2⟩ := lookP_keepF h
      refine ⟨h1, ?_⟩
      simp only [lookP]
      split
      · rename_i he
        exfalso
        simp only [Bool.and_eq_true] at he
        have e1 := Nat.eq_of_beq_eq_true he.1
        have e2 := Nat.eq_of_beq_eq_true he.2
        subst e1 e2
        exact hk h1
      · exact h2

def opF (st : FSt) : Operand → Option FV
  | .tmp t => lookL st.env t
  | .const (.int k z) => some (.int k z)
  | .const (.pointer none) => some .nil
  | _ => none

def pureF (D : FD) (st : FSt) (o : Oper) : Option FV :=
  match o.op with
  | .move x => opF st x
  | .assign x => opF st x
  | .nilCheck x => match opF st x with
    | some (.ptr p q) => some (.ptr p q)
    | _ => none
  | .fieldAddr t x k => match opF st x, D.fld t k with
    | some (.ptr p q), some off => some (.ptr p (q + off))
    | _, _ => none
  | _ => none

def canW (np0 olen : Nat) (st : FSt) (p o : Nat) : Bool :=
  Nat.beq (o % 4) 0 && (if Nat.beq p 0 then Nat.ble (o + 4) olen else Nat.ble np0 p && (match lookL st.lens p with
    | some len => Nat.ble (o + 4) len
    | none => false))

/-- A new name laid at a place. -/
def layN (nin np0 olen : Nat) (st : FSt) (p o : Nat) (e : FEx) (d : Nat) (v : FV) : Option FSt :=
  if canW np0 olen st p o && Nat.blt d st.sz then some { st with env := (d, v) :: st.env, defs := e :: st.defs, mem := ((p, o), nin + st.defs.length) :: keepF st.al np0 p o st.mem } else none
/-- An old one. -/
def layO (np0 olen : Nat) (st : FSt) (p o i : Nat) (d : Nat) (v : FV) : Option FSt :=
  if canW np0 olen st p o && Nat.blt d st.sz then some { st with env := (d, v) :: st.env, mem := ((p, o), i) :: keepF st.al np0 p o st.mem } else none
/-- A new block of so many elements. -/
def newB (nin : Nat) (st : FSt) (len : Nat) (e : FEx) (d : Nat) : Option FSt :=
  if Nat.blt d st.sz then some { st with np := st.np + 1, env := (d, .ptr st.np 0) :: st.env, defs := e :: st.defs, mem := (if Nat.beq len 12 then [((st.np, 0), nin + st.defs.length), ((st.np, 4), nin + st.defs.length), ((st.np, 8), nin + st.defs.length)] else [((st.np, 0), nin + st.defs.length)]) ++ st.mem, lens := (st.np, len) :: st.lens } else none

def callF (D : FD) (nin np0 olen : Nat) (st : FSt) (d : Nat) : FK → List (Option FV) → Option FSt
  | .mul, [some (.ptr p o), some (.ptr p1 o1), some (.ptr p2 o2)] => match lookP st.mem p1 o1, lookP st.mem p2 o2 with
    | some i, some j => layN nin np0 olen st p o (.mul i j) d (.ptr p o)
    | _, _ => none
  | .add, [some (.ptr p o), some (.ptr p1 o1), some (.ptr p2 o2)] => match lookP st.mem p1 o1, lookP st.mem p2 o2 with
    | some i, some j => layN nin np0 olen st p o (.add i j) d (.ptr p o)
    | _, _ => none
  | .sub, [some (.ptr p o), some (.ptr p1 o1), some (.ptr p2 o2)] => match lookP st.mem p1 o1, lookP st.mem p2 o2 with
    | some i, some j => layN nin np0 olen st p o (.sub i j) d (.ptr p o)
    | _, _ => none
  | .sq, [some (.ptr p o), some (.ptr p1 o1)] => match lookP st.mem p1 o1 with
    | some i => layN nin np0 olen st p o (.mul i i) d (.ptr p o)
    | _ => none
  | .set, [some (.ptr p o), some (.ptr p1 o1)] => match lookP st.mem p1 o1 with
    | some i => layO np0 olen st p o i d (.ptr p o)
    | _ => none
  | .one, [some (.ptr p o)] => layN nin np0 olen st p o .one d (.ptr p o)
  | .sel, [some (.ptr p o), some (.ptr p1 o1), some (.ptr p2 o2), some (.int k z)] => match lookP st.mem p1 o1, lookP st.mem p2 o2 with
    | some i, some j => if decide (k = D.ik) then (if decide (z = 1) then layO np0 olen st p o i d (.ptr p o) else if decide (z = 0) then layO np0 olen st p o j d (.ptr p o) else none) else none
    | _, _ => none
  | .b, [] => newB nin st 4 .cb d
  | .sqn, [some (.ptr p o), some (.ptr p1 o1), some (.int k z)] => match lookP st.mem p1 o1 with
    | some i => if decide (k = D.ik) && decide (1 ≤ z) && decide (z < 1000) then layN nin np0 olen st p o (.sqn i z.toNat) d .unit else none
    | _ => none
  | _, _ => none

def stepF (D : FD) (nin np0 olen : Nat) (st : FSt) (o : Oper) : Option FSt :=
  match o.guard, o.dst with
  | none, some d => match pureF D st o with
    | some v => if Nat.blt d st.sz then some { st with env := (d, v) :: st.env } else none
    | none => match o.op with
      | .alloc t => match D.alc t with
        | some len => if Nat.beq len 4 || Nat.beq len 12 then newB nin st len .zero d else none
        | none => none
      | .call c => match c.callee with
        | .value (.func f) => match D.kind f with
          | some k => callF D nin np0 olen st d k (c.args.toList.map (opF st))
          | none => none
        | _ => none
      | _ => none
  | _, _ => none

/-- What the program must say of these numbers. -/
structure EngF (P : Program) (D : FD) : Prop where
  fol : P.follows .mixedOrders = true
  enter : ∀ f k, D.kind f = some k → ∀ args w, (callFunc f args).run P w = .ok (.enter f args) w
  hfld : ∀ t k off, D.fld t k = some off → ∀ (b o : Nat) (w : World), (Instr.fieldAt t (.pointer (some ⟨b, o, none⟩)) k).run P w = .ok (.pointer (some ⟨b, o + off, none⟩)) w
  halc : ∀ t len, D.alc t = some len → ∀ w : World, (Instr.alloc t true (.tuple #[])).run P w = .ok (.pointer (some ⟨w.heap.size, 0, none⟩)) (w.alloc (.cells (List.replicate len (Value.int .u64 0)).toArray t))
  hmul : ∀ f, D.kind f = some .mul → ∀ (b o b1 o1 b2 o2 : Nat) (x y : Fp) (w : World), b < w.heap.size → b1 < w.heap.size → b2 < w.heap.size → Free w b o 4 → Elt w b1 o1 x → Elt w b2 o2 y →
    Calls P f #[.pointer (some ⟨b, o, none⟩), .pointer (some ⟨b1, o1, none⟩), .pointer (some ⟨b2, o2, none⟩)] w fun e w' => e = .returned (.pointer (some ⟨b, o, none⟩)) ∧ Turned b o 4 w w' ∧ Elt w' b o (x * y)
  hadd : ∀ f, D.kind f = some .add → ∀ (b o b1 o1 b2 o2 : Nat) (x y : Fp) (w : World), b < w.heap.size → b1 < w.heap.size → b2 < w.heap.size → Free w b o 4 → Elt w b1 o1 x → Elt w b2 o2 y →
    Calls P f #[.pointer (some ⟨b, o, none⟩), .pointer (some ⟨b1, o1, none⟩), .pointer (some ⟨b2, o2, none⟩)] w fun e w' => e = .returned (.pointer (some ⟨b, o, none⟩)) ∧ Turned b o 4 w w' ∧ Elt w' b o (x + y)
  hsub : ∀ f, D.kind f = some .sub → ∀ (b o b1 o1 b2 o2 : Nat) (x y : Fp) (w : World), b < w.heap.size → b1 < w.heap.size → b2 < w.heap.size → Free w b o 4 → Elt w b1 o1 x → Elt w b2 o2 y →
    Calls P f #[.pointer (some ⟨b, o, none⟩), .pointer (some ⟨b1, o1, none⟩), .pointer (some ⟨b2, o2, none⟩)] w fun e w' => e = .returned (.pointer (some ⟨b, o, none⟩)) ∧ Turned b o 4 w w' ∧ Elt w' b o (x - y)
  hsq : ∀ f, D.kind f = some .sq → ∀ (b o b1 o1 : Nat) (x : Fp) (w : World), b < w.heap.size → b1 < w.heap.size → Free w b o 4 → Elt w b1 o1 x →
    Calls P f #[.pointer (some ⟨b, o, none⟩), .pointer (some ⟨b1, o1, none⟩)] w fun e w' => e = .returned (.pointer (some ⟨b, o, none⟩)) ∧ Turned b o 4 w w' ∧ Elt w' b o (x * x)
  hset : ∀ f, D.kind f = some .set → ∀ (b o b1 o1 : Nat) (x : Fp) (w : World), b < w.heap.size → b1 < w.heap.size → Free w b o 4 → Elt w b1 o1 x →
    Calls P f #[.pointer (some ⟨b, o, none⟩), .pointer (some ⟨b1, o1, none⟩)] w fun e w' => e = .returned (.pointer (some ⟨b, o, none⟩)) ∧ Turned b o 4 w w' ∧ Elt w' b o x
  hone : ∀ f, D.kind f = some .one → ∀ (b o : Nat) (w : World), b < w.heap.size → Free w b o 4 →
    Calls P f #[.pointer (some ⟨b, o, none⟩)] w fun e w' => e = .returned (.pointer (some ⟨b, o, none⟩)) ∧ Turned b o 4 w w' ∧ Elt w' b o 1
  hsel : ∀ f, D.kind f = some .sel → ∀ (b o b1 o1 b2 o2 : Nat) (x y : Fp) (z : Int) (w : World), (z = 0 ∨ z = 1) → b < w.heap.size → b1 < w.heap.size → b2 < w.heap.size → Free w b o 4 → Elt w b1 o1 x → Elt w b2 o2 y →
    Calls P f #[.pointer (some ⟨b, o, none⟩), .pointer (some ⟨b1, o1, none⟩), .pointer (some ⟨b2, o2, none⟩), .int D.ik z] w fun e w' => e = .returned (.pointer (some ⟨b, o, none⟩)) ∧ Turned b o 4 w w' ∧ Elt w' b o (if z = 1 then x else y)
  hB : ∀ f, D.kind f = some .b → ∀ w : World, Calls P f #[] w fun e w' => ∃ b, e = .returned (.pointer (some ⟨b, 0, none⟩)) ∧ w.heap.size ≤ b ∧ b < w'.heap.size ∧ Ext w w' ∧ Free w' b 0 4 ∧ Elt w' b 0 cB
  hsqn : ∀ f, D.kind f = some .sqn → ∀ (b o b1 o1 : Nat) (x : Fp) (z : Int) (w : World), 1 ≤ z → z < 1000 → b < w.heap.size → b1 < w.heap.size → Free w b o 4 → Elt w b1 o1 x →
    Calls P f #[.pointer (some ⟨b, o, none⟩), .pointer (some ⟨b1, o1, none⟩), .int D.ik z] w fun e w' => e = .returned (.tuple #[]) ∧ Turned b o 4 w w' ∧ Elt w' b o (fpow x (2 ^ z.toNat))

/-- What the engine says of the world. -/
structure FR (β γ : Nat → Nat) (ins : Nat → Fp) (nin np0 L olen : Nat) (w0 : World) (st : FSt) (a : Act) (w : World) : Prop where
  size : a.tmps.size = st.sz
  env : ∀ t v, lookL st.env t = some v → a.tmps[t]? = some (v.val β γ) ∧ v.lt st.np
  dfr : a.defers = []
  mem : ∀ p o i, lookP st.mem p o = some i → i < nin + st.defs.length ∧ p < st.np ∧ o % 4 = 0 ∧ (p < np0 → o + 4 ≤ L) ∧ Elt w (β p) (γ p + o) (denF ins nin st.defs i)
  np : np0 ≤ st.np
  pos : 0 < np0
  par : ∀ p, p < np0 → β p < w0.heap.size
  sep : ∀ p, 0 < p → p < np0 → β p ≠ β 0 ∨ (st.al = true ∧ γ p = γ 0) ∨ γ p + L ≤ γ 0 ∨ γ 0 + L ≤ γ p
  loc : ∀ p, np0 ≤ p → p < st.np → w0.heap.size ≤ β p ∧ β p < w.heap.size ∧ γ p = 0 ∧ ∀ len, lookL st.lens p = some len → Free w (β p) 0 len
  lns : ∀ p len, lookL st.lens p = some len → p < st.np
  inj : ∀ p q, np0 ≤ p → p < st.np → np0 ≤ q → q < st.np → β p = β q → p = q
  out : Free w (β 0) (γ 0) olen
  oL : olen ≤ L
  trn : Turned (β 0) (γ 0) olen w0 w

section
variable {P : Program} {D : FD} {β γ : Nat → Nat} {ins : Nat → Fp} {nin np0 L olen : Nat} {w0 : World} {st : FSt} {a : Act} {w : World} {o : Oper}

theorem FR.blk (R : FR β γ ins nin np0 L olen w0 st a w) {p : Nat} (hp : p < st.np) : β p < w.heap.size := by
  by_cases h : p < np0
  · exact Nat.lt_of_lt_of_le (R.par p h) R.trn.size
  · exact (R.loc p (by omega) hp).2.1

theorem opF_sound (R : FR β γ ins nin np0 L olen w0 st a w) {x : Operand} {v : FV} (h : opF st x = some v) : a.eval x = v.val β γ ∧ v.lt st.np := by
  cases x with
  | tmp t =>
    obtain ⟨h1, h2⟩ := R.env t v h
    refine ⟨?_, h2⟩
    show a.tmps.getD t undef = _
    rw [Array.getD_eq_getD_getElem?, h1]
    rfl
  | const c =>
    cases c <;> simp only [opF] at h <;> first | contradiction | skip
    case int k z =>
      obtain rfl := Option.some.inj h
      exact ⟨rfl, trivial⟩
    case pointer q =>
      cases q <;> simp only [opF] at h
      · obtain rfl := Option.some.inj h
        exact ⟨rfl, trivial⟩
      · contradiction
  | global g => simp only [opF] at h; contradiction
  | func f => simp only [opF] at h; contradiction

/-- A slot is set. -/
theorem FR.put (R : FR β γ ins nin np0 L olen w0 st a w) {d : Nat} {v : FV} (hd : d < st.sz) (hv : v.lt st.np) :
    FR β γ ins nin np0 L olen w0 { st with env := (d, v) :: st.env } (a.put (some d) (v.val β γ)) w := by
  have hsz : d < a.tmps.size := by rw [R.size]; exact hd
  refine ⟨by simp [Act.put, R.size], ?_, R.dfr, R.mem, R.np, R.pos, R.par, R.sep, R.loc, R.lns, R.inj, R.out, R.oL, R.trn⟩
  intro t v' ht
  simp only [lookL] at ht
  split at ht
  · rename_i he
    obtain rfl : d = t := Nat.eq_of_beq_eq_true he
    obtain rfl := Option.some.inj ht
    exact ⟨by simp [Act.put, hsz], hv⟩
  · rename_i he
    have hne : d ≠ t := fun e => he (by rw [e]; exact Nat.beq_refl t)
    obtain ⟨k1, k2⟩ := R.env t v' ht
    refine ⟨?_, k2⟩
    simp only [Act.put]
    rw [Array.getElem?_setIfInBounds_ne hne]
    exact k1

theorem FR.drewN (R : FR β γ ins nin np0 L olen w0 st a w) (n : Nat) : FR β γ ins nin np0 L olen w0 st a (w.drewN n) :=
  ⟨R.size, R.env, R.dfr, R.mem, R.np, R.pos, R.par, R.sep, R.loc, R.lns, R.inj, R.out, R.oL, R.trn.drewN n⟩

/-- An element is laid at a place. -/
theorem FR.lay (R : FR β γ ins nin np0 L olen w0 st a w) {p q i : Nat} {ds : List FEx} {w' : World} (hp : p < st.np) (hc : canW np0 olen st p q = true) (hT : Turned (β p) (γ p + q) 4 w w')
    (hl : st.defs.length ≤ ds.length) (hds : ∀ j, j < nin + st.defs.length → denF ins nin ds j = denF ins nin st.defs j) (hi : i < nin + ds.length) (hE : Elt w' (β p) (γ p + q) (denF ins nin ds i)) :
    FR β γ ins nin np0 L olen w0 { st with defs := ds, mem := ((p, q), i) :: keepF st.al np0 p q st.mem } a w' := by
  simp only [canW, Bool.and_eq_true] at hc
  obtain ⟨hq4, hc⟩ := hc
  have hq4 : q % 4 = 0 := Nat.eq_of_beq_eq_true hq4
  have hpw := R.blk hp
  have hb0 : β 0 < w0.heap.size := R.par 0 R.pos
  have hb0w : β 0 < w.heap.size := Nat.lt_of_lt_of_le hb0 R.trn.size
  -- either the out parameter, or a block of the call's own
  have hkind : (p = 0 ∧ q + 4 ≤ olen) ∨ (np0 ≤ p ∧ ∃ len, lookL st.lens p = some len ∧ q + 4 ≤ len) := by
    split at hc
    · rename_i h0
      exact .inl ⟨Nat.eq_of_beq_eq_true h0, Nat.le_of_ble_eq_true hc⟩
    · simp only [Bool.and_eq_true] at hc
      refine .inr ⟨Nat.le_of_ble_eq_true hc.1, ?_⟩
      have h2 := hc.2
      split at h2
      · rename_i len hlen
        exact ⟨len, hlen, Nat.le_of_ble_eq_true h2⟩
      · cases h2
  refine ⟨R.size, R.env, R.dfr, ?_, R.np, R.pos, R.par, R.sep, ?_, R.lns, R.inj, ?_, R.oL, ?_⟩
  · intro p' o' j h
    simp only [lookP] at h
    split at h
    · rename_i he
      simp only [Bool.and_eq_true] at he
      have e1 := Nat.eq_of_beq_eq_true he.1
      have e2 := Nat.eq_of_beq_eq_true he.2
      subst e1 e2
      obtain rfl := Option.some.inj h
      refine ⟨hi, hp, hq4, fun hlt => ?_, hE⟩
      rcases hkind with ⟨rfl, h1⟩ | ⟨h1, _⟩
      · exact Nat.le_trans h1 R.oL
      · omega
    · obtain ⟨hs, hk⟩ := lookP_keepF h
      obtain ⟨k1, k2, k3, k4, k5⟩ := R.mem p' o' j hk
      refine ⟨Nat.lt_of_lt_of_le k1 (Nat.add_le_add_left hl _), k2, k3, k4, ?_⟩
      rw [hds j k1]
      refine k5.far hT (R.blk k2) ?_
      unfold stays at hs
      rcases hkind with ⟨rfl, h1⟩ | ⟨h1, _⟩
      · rw [if_pos (by rfl)] at hs
        simp only [Bool.or_eq_true, Bool.not_eq_true', Bool.and_eq_true] at hs
        rcases hs with (hs | hs) | hs
        · have h2 := Nat.le_of_ble_eq_true hs
          left
          have := (R.loc p' h2 k2).1
          omega
        · have hne : o' ≠ q := fun e => by rw [e, Nat.beq_refl] at hs; cases hs
          by_cases hp0 : p' = 0
          · subst hp0
            right
            omega
          · by_cases hpl : p' < np0
            · have h4 := k4 hpl
              have hoL := R.oL
              rcases R.sep p' (by omega) hpl with h5 | h5 | h5 | h5
              · exact .inl h5
              · right; rw [h5.2]; omega
              · right; omega
              · right; omega
            · left
              have := (R.loc p' (by omega) k2).1
              omega
        · have hp0 : p' ≠ 0 := fun e => by rw [e, Nat.beq_refl] at hs; cases hs.2
          by_cases hpl : p' < np0
          · have h4 := k4 hpl
            have hoL := R.oL
            rcases R.sep p' (by omega) hpl with h5 | h5 | h5 | h5
            · exact .inl h5
            · rw [hs.1] at h5; cases h5.1
            · right; omega
            · right; omega
          · left
            have := (R.loc p' (by omega) k2).1
            omega
      · have hpos := R.pos
        rw [if_neg (fun e => by have := Nat.eq_of_beq_eq_true e; omega)] at hs
        by_cases hpp : p' = p
        · subst hpp
          have hne : o' ≠ q := fun e => by rw [e, Nat.beq_refl, Nat.beq_refl] at hs; cases hs
          right
          omega
        · left
          intro e
          by_cases hpl : p' < np0
          · have h5 := R.par p' hpl
            have := (R.loc p h1 hp).1
            omega
          · exact hpp (R.inj p' p (by omega) k2 h1 hp e)
  · intro p' h1 h2
    obtain ⟨k1, k2, k3, k4⟩ := R.loc p' h1 h2
    exact ⟨k1, Nat.lt_of_lt_of_le k2 hT.size, k3, fun len hlen => (k4 len hlen).turned hT hE k2⟩
  · exact R.out.turned hT hE hb0w
  · rcases hkind with ⟨rfl, h1⟩ | ⟨h1, _⟩
    · exact R.trn.trans (hT.widen (by omega) (by omega))
    · exact R.trn.new hT (R.loc p h1 hp).1 hb0

theorem FR.layN (R : FR β γ ins nin np0 L olen w0 st a w) {p q d : Nat} {e : FEx} {v : FV} {st' : FSt} {w' : World} (h : layN nin np0 olen st p q e d v = some st') (hp : p < st.np) (hv : v.lt st.np)
    (hT : Turned (β p) (γ p + q) 4 w w') (hE : Elt w' (β p) (γ p + q) (evF (denF ins nin st.defs) e)) : FR β γ ins nin np0 L olen w0 st' (a.put (some d) (v.val β γ)) w' := by
  unfold Go.Proofs.Ytgdjmgcolipcnaa.layN at h
  split at h
  · rename_i hc
    simp only [Bool.and_eq_true] at hc
    obtain rfl := Option.some.inj h
    have h1 := R.lay (ds := e :: st.defs) (i := nin + st.defs.length) hp hc.1 hT (by simp) (fun j hj => denF_lt hj) (by simp) (by rw [denF_last]; exact hE)
    exact h1.put (d := d) (v := v) (by simpa [Nat.blt_eq] using hc.2) hv
  · cases h
theorem FR.layO (R : FR β γ ins nin np0 L olen w0 st a w) {p q d i : Nat} {v : FV} {st' : FSt} {w' : World} (h : layO np0 olen st p q i d v = some st') (hp : p < st.np) (hv : v.lt st.np) (hi : i < nin + st.defs.length)
    (hT : Turned (β p) (γ p + q) 4 w w') (hE : Elt w' (β p) (γ p + q) (denF ins nin st.defs i)) : FR β γ ins nin np0 L olen w0 st' (a.put (some d) (v.val β γ)) w' := by
  unfold Go.Proofs.Ytgdjmgcolipcnaa.layO at h
  split at h
  · rename_i hc
    simp only [Bool.and_eq_true] at hc
    obtain rfl := Option.some.inj h
    have h1 := R.lay (ds := st.defs) (i := i) hp hc.1 hT (Nat.le_refl _) (fun j hj => rfl) hi hE
    exact h1.put (d := d) (v := v) (by simpa [Nat.blt_eq] using hc.2) hv
  · cases h

/-- What of the world a step hands on. -/
def FGo (β γ : Nat → Nat) (ins : Nat → Fp) (nin np0 L olen : Nat) (w0 : World) (st' : FSt) (next : Act → World → Prop) : Prop :=
  ∀ β' γ' a' w', (∀ p, p < np0 → β' p = β p ∧ γ' p = γ p) → FR β' γ' ins nin np0 L olen w0 st' a' w' → next a' w'

end
end Go.Proofs.Ytgdjmgcolipcnaa
/-
  What is proved here: the engine on elements: new blocks, steps, regions, code, calls. No program in sight.
  Conditions: those of each theorem.
-/
namespace Go.Proofs.Ytgdjmgcolipcnaa
open Go Go.RowKit Ecp
set_option linter.unusedSimpArgs false
set_option linter.unusedVariables false

section
variable {P : Program} {D : FD} {β γ : Nat → Nat} {ins : Nat → Fp} {nin np0 L olen : Nat} {w0 : World} {st : FSt} {a : Act} {w : World} {o : Oper}

theorem FR.ext (R : FR β γ ins nin np0 L olen w0 st a w) (g : Gr) : FR β γ ins nin np0 L olen w0 st a (ext w g) := by
  have hb0 : β 0 < w0.heap.size := R.par 0 R.pos
  refine ⟨R.size, R.env, R.dfr, ?_, R.np, R.pos, R.par, R.sep, ?_, R.lns, R.inj, R.out.ext (Nat.lt_of_lt_of_le hb0 R.trn.size) g, R.oL, R.trn.ext hb0 g⟩
  · intro p q i h
    obtain ⟨k1, k2, k3, k4, k5⟩ := R.mem p q i h
    exact ⟨k1, k2, k3, k4, k5.ext (R.blk k2) g⟩
  · intro p h1 h2
    obtain ⟨k1, k2, k3, k4⟩ := R.loc p h1 h2
    exact ⟨k1, by rw [size_ext]; omega, k3, fun len hl => (k4 len hl).ext k2 g⟩

theorem val_updF {v : FV} {m x y : Nat} (h : v.lt m) : v.val (updN β m x) (updN γ m y) = v.val β γ := by
  cases v with
  | ptr p q =>
    have hp : p < m := h
    simp only [FV.val]
    rw [updN_off _ _ _ _ (by omega), updN_off _ _ _ _ (by omega)]
  | _ => rfl

theorem lookP_app {l m : MemF} {p q i : Nat} (h : lookP (l ++ m) p q = some i) : lookP l p q = some i ∨ lookP m p q = some i := by
  induction l with
  | nil => exact .inr h
  | cons x l ih =>
    obtain ⟨⟨p', q'⟩, j⟩ := x
    simp only [List.cons_append, lookP] at h ⊢
    split at h
    · rename_i he
      rw [if_pos he]; exact .inl h
    · rename_i he
      rw [if_neg he]; exact ih h

theorem look_new {np n len : Nat} {p q i : Nat} (h : lookP (if Nat.beq len 12 then [((np, 0), n), ((np, 4), n), ((np, 8), n)] else [((np, 0), n)]) p q = some i) :
    p = np ∧ i = n ∧ (q = 0 ∨ (len = 12 ∧ (q = 4 ∨ q = 8))) := by
  split at h
  · rename_i hl
    have hl := Nat.eq_of_beq_eq_true hl
    simp only [lookP] at h
    split at h
    · rename_i he
      simp only [Bool.and_eq_true] at he
      exact ⟨(Nat.eq_of_beq_eq_true he.1).symm, (Option.some.inj h).symm, .inl (Nat.eq_of_beq_eq_true he.2).symm⟩
    · split at h
      · rename_i he
        simp only [Bool.and_eq_true] at he
        exact ⟨(Nat.eq_of_beq_eq_true he.1).symm, (Option.some.inj h).symm, .inr ⟨hl, .inl (Nat.eq_of_beq_eq_true he.2).symm⟩⟩
      · split at h
        · rename_i he
          simp only [Bool.and_eq_true] at he
          exact ⟨(Nat.eq_of_beq_eq_true he.1).symm, (Option.some.inj h).symm, .inr ⟨hl, .inr (Nat.eq_of_beq_eq_true he.2).symm⟩⟩
        · cases h
  · simp only [lookP] at h
    split at h
    · rename_i he
      simp only [Bool.and_eq_true] at he
      exact ⟨(Nat.eq_of_beq_eq_true he.1).symm, (Option.some.inj h).symm, .inl (Nat.eq_of_beq_eq_true he.2).symm⟩
    · cases h

theorem FR.newB0 (R : FR β γ ins nin np0 L olen w0 st a w) {len d b : Nat} {e : FEx} {st' : FSt} {w' : World} (h : newB nin st len e d = some st') (hE : Ext w w') (h1 : w0.heap.size ≤ b) (hne : ∀ p, p < st.np → β p ≠ b) (h2 : b < w'.heap.size)
    (hF : Free w' b 0 len) (hx : ∀ q, (q = 0 ∨ (len = 12 ∧ (q = 4 ∨ q = 8))) → Elt w' b q (evF (denF ins nin st.defs) e)) :
    FR (updN β st.np b) (updN γ st.np 0) ins nin np0 L olen w0 st' (a.put (some d) (.pointer (some ⟨b, 0, none⟩))) w' := by
  obtain ⟨g, rfl⟩ := hE
  have R1 := R.ext g
  unfold newB at h
  split at h
  case isFalse => cases h
  rename_i hd
  have hd : d < st.sz := by simpa [Nat.blt_eq] using hd
  have hst := Option.some.inj h
  have hnp := R.np
  have hpos := R.pos
  have ob : ∀ p, p < st.np → updN β st.np b p = β p := fun p hp => updN_off _ _ _ _ (by omega)
  have og : ∀ p, p < st.np → updN γ st.np 0 p = γ p := fun p hp => updN_off _ _ _ _ (by omega)
  have nb : updN β st.np b st.np = b := updN_at ..
  have ng : updN γ st.np 0 st.np = 0 := updN_at ..
  have R2 : FR (updN β st.np b) (updN γ st.np 0) ins nin np0 L olen w0 { st with np := st.np + 1, defs := e :: st.defs, mem := (if Nat.beq len 12 then [((st.np, 0), nin + st.defs.length), ((st.np, 4), nin + st.defs.length), ((st.np, 8), nin + st.defs.length)] else [((st.np, 0), nin + st.defs.length)]) ++ st.mem, lens := (st.np, len) :: st.lens } a (Go.Proofs.Ytgdjmgcolipcnaa.ext w g) := by
    refine ⟨R.size, ?_, R.dfr, ?_, by show np0 ≤ st.np + 1; omega, R.pos, ?_, ?_, ?_, ?_, ?_, ?_, R.oL, ?_⟩
    · intro t v ht
      obtain ⟨k1, k2⟩ := R.env t v ht
      exact ⟨by rw [val_updF k2]; exact k1, FV.lt_mono (Nat.le_succ _) k2⟩
    · intro p q i hl
      rcases lookP_app hl with hl | hl
      · obtain ⟨rfl, rfl, hq⟩ := look_new hl
        refine ⟨by simp, by simp, by omega, fun hlt => by omega, ?_⟩
        rw [nb, ng, Nat.zero_add, denF_last]
        exact hx q hq
      · obtain ⟨k1, k2, k3, k4, k5⟩ := R1.mem p q i hl
        refine ⟨by simp only [List.length_cons]; omega, Nat.lt_succ_of_lt k2, k3, k4, ?_⟩
        rw [ob p k2, og p k2, denF_lt k1]
        exact k5
    · intro p hp
      rw [ob p (by omega)]
      exact R.par p hp
    · intro p hp0 hp
      rw [ob p (by omega), og p (by omega), ob 0 (by omega), og 0 (by omega)]
      exact R.sep p hp0 hp
    · intro p hp hp'
      have hsz := R.trn.size
      by_cases hpn : p = st.np
      · subst hpn
        rw [nb, ng]
        refine ⟨by omega, h2, rfl, fun len' hl => ?_⟩
        simp only [lookL] at hl
        rw [if_pos (Nat.beq_refl _)] at hl
        obtain rfl := Option.some.inj hl
        exact hF
      · have hlt : p < st.np := by have : p < st.np + 1 := hp'; omega
        rw [ob p hlt, og p hlt]
        obtain ⟨k1, k2, k3, k4⟩ := R1.loc p hp hlt
        refine ⟨k1, k2, k3, fun len' hl => ?_⟩
        simp only [lookL] at hl
        rw [if_neg (fun e => hpn (Nat.eq_of_beq_eq_true e).symm)] at hl
        exact k4 len' hl
    · intro p len' hl
      simp only [lookL] at hl
      split at hl
      · rename_i he
        have := Nat.eq_of_beq_eq_true he
        show p < st.np + 1
        omega
      · exact Nat.lt_succ_of_lt (R.lns p len' hl)
    · intro p q hp hp' hq hq' he
      have hp' : p < st.np + 1 := hp'
      have hq' : q < st.np + 1 := hq'
      by_cases hpn : p = st.np
      · by_cases hqn : q = st.np
        · omega
        · have hlt : q < st.np := by omega
          subst hpn
          rw [nb, ob q hlt] at he
          exact absurd he.symm (hne q hlt)
      · have hlt : p < st.np := by omega
        by_cases hqn : q = st.np
        · subst hqn
          rw [nb, ob p hlt] at he
          exact absurd he (hne p hlt)
        · have hltq : q < st.np := by omega
          rw [ob p hlt, ob q hltq] at he
          exact R.inj p q hp hlt hq hltq he
    · rw [ob 0 (by omega), og 0 (by omega)]
      exact R1.out
    · rw [ob 0 (by omega), og 0 (by omega)]
      exact R1.trn
  have R3 := R2.put (d := d) (v := .ptr st.np 0) hd (Nat.lt_succ_self _)
  rw [← hst]
  simp only [FV.val, nb, ng, Nat.add_zero] at R3
  exact R3

theorem FR.newB (R : FR β γ ins nin np0 L olen w0 st a w) {len d b : Nat} {e : FEx} {st' : FSt} {w' : World} (h : newB nin st len e d = some st') (hE : Ext w w') (h1 : w.heap.size ≤ b) (h2 : b < w'.heap.size)
    (hF : Free w' b 0 len) (hx : ∀ q, (q = 0 ∨ (len = 12 ∧ (q = 4 ∨ q = 8))) → Elt w' b q (evF (denF ins nin st.defs) e)) :
    FR (updN β st.np b) (updN γ st.np 0) ins nin np0 L olen w0 st' (a.put (some d) (.pointer (some ⟨b, 0, none⟩))) w' :=
  R.newB0 h hE (Nat.le_trans R.trn.size h1) (fun p hp e => by have := R.blk hp; omega) h2 hF hx

theorem pureF_sound (S : EngF P D) (R : FR β γ ins nin np0 L olen w0 st a w) {v : FV} (h : pureF D st o = some v) : v.lt st.np ∧ ∀ w', (execOp a.eval o).run P w' = .ok (.value (v.val β γ)) w' := by
  unfold pureF at h
  split at h
  · rename_i x ho
    obtain ⟨h1, h2⟩ := opF_sound R h
    refine ⟨h2, fun w' => ?_⟩
    unfold execOp
    simp only [ho, h1]
    rfl
  · rename_i x ho
    obtain ⟨h1, h2⟩ := opF_sound R h
    refine ⟨h2, fun w' => ?_⟩
    unfold execOp
    simp only [ho, h1]
    rfl
  · rename_i x ho
    split at h
    · rename_i p q hv
      obtain rfl := Option.some.inj h
      obtain ⟨h1, h2⟩ := opF_sound R hv
      refine ⟨h2, fun w' => ?_⟩
      unfold execOp
      simp only [ho, h1, FV.val]
      rfl
    · cases h
  · rename_i t x k ho
    split at h
    · rename_i p q off hv hf
      obtain rfl := Option.some.inj h
      obtain ⟨h1, h2⟩ := opF_sound R hv
      refine ⟨h2, fun w' => ?_⟩
      unfold execOp
      simp only [ho, h1, FV.val, Sem.run_bind, S.hfld t k off hf _ _ w', Result.andThen_ok, Sem.run_pure, Nat.add_assoc]
    · cases h
  · cases h

theorem map1 {A B : Type} {f : A → B} {l : List A} {a : B} (h : l.map f = [a]) : ∃ x, l = [x] ∧ f x = a := by
  rcases l with _ | ⟨x, _ | ⟨u, l⟩⟩ <;> simp at h
  exact ⟨x, rfl, h⟩

theorem Elt.zero {w : World} {b o len : Nat} (t : TypeId) (hb : w.heap[b]? = some (.cells (List.replicate len (Value.int .u64 0)).toArray t)) (hl : o + 4 ≤ len) : Elt w b o 0 := by
  unfold Elt
  rw [qds_zero]
  intro i x hi
  have hlt := (List.getElem?_eq_some_iff.1 hi).1
  have hlt : i < 4 := hlt
  have hlt' : o + i < len := Nat.lt_of_lt_of_le (Nat.add_lt_add_left hlt o) hl
  have hx : x = 0 := by
    match i, hi with
    | 0, hi => simpa using hi.symm
    | 1, hi => simpa using hi.symm
    | 2, hi => simpa using hi.symm
    | 3, hi => simpa using hi.symm
  subst hx
  simp [World.cell?, hb, List.getElem?_replicate, hlt']
theorem Free.zero {w : World} {b len : Nat} (t : TypeId) (hb : w.heap[b]? = some (.cells (List.replicate len (Value.int .u64 0)).toArray t)) : Free w b 0 len := by
  intro i hi
  refine ⟨⟨.int .u64 0, ?_⟩, ?_⟩
  · simp [World.cell?, hb, List.getElem?_replicate, hi]
  · simp [World.frozen?, hb]

end
end Go.Proofs.Ytgdjmgcolipcnaa
/-
  What is proved here: the engine on elements: its steps are sound. No program in sight.
  Conditions: those of each theorem.
-/
namespace Go.Proofs.Ytgdjmgcolipcnaa
open Go Go.RowKit Ecp
set_option linter.unusedSimpArgs false
set_option linter.unusedVariables false

section
variable {P : Program} {D : FD} {β γ : Nat → Nat} {ins : Nat → Fp} {nin np0 L olen : Nat} {w0 : World} {st : FSt} {a : Act} {w : World} {o : Oper}

theorem args1 (R : FR β γ ins nin np0 L olen w0 st a w) {c : Call} {v1 : FV} (h : c.args.toList.map (opF st) = [some v1]) : c.args.map a.eval = #[v1.val β γ] ∧ v1.lt st.np := by
  obtain ⟨x, hc, hx⟩ := map1 h
  obtain ⟨e1, l1⟩ := opF_sound R hx
  refine ⟨?_, l1⟩
  apply Array.toList_inj.1
  rw [Array.toList_map, hc]
  simp [e1]
theorem args2 (R : FR β γ ins nin np0 L olen w0 st a w) {c : Call} {v1 v2 : FV} (h : c.args.toList.map (opF st) = [some v1, some v2]) : c.args.map a.eval = #[v1.val β γ, v2.val β γ] ∧ v1.lt st.np ∧ v2.lt st.np := by
  obtain ⟨x, y, hc, hx, hy⟩ := map2 h
  obtain ⟨e1, l1⟩ := opF_sound R hx
  obtain ⟨e2, l2⟩ := opF_sound R hy
  refine ⟨?_, l1, l2⟩
  apply Array.toList_inj.1
  rw [Array.toList_map, hc]
  simp [e1, e2]
theorem args3 (R : FR β γ ins nin np0 L olen w0 st a w) {c : Call} {v1 v2 v3 : FV} (h : c.args.toList.map (opF st) = [some v1, some v2, some v3]) : c.args.map a.eval = #[v1.val β γ, v2.val β γ, v3.val β γ] ∧ v1.lt st.np ∧ v2.lt st.np ∧ v3.lt st.np := by
  obtain ⟨x, y, z, hc, hx, hy, hz⟩ := map3 h
  obtain ⟨e1, l1⟩ := opF_sound R hx
  obtain ⟨e2, l2⟩ := opF_sound R hy
  obtain ⟨e3, l3⟩ := opF_sound R hz
  refine ⟨?_, l1, l2, l3⟩
  apply Array.toList_inj.1
  rw [Array.toList_map, hc]
  simp [e1, e2, e3]
theorem args4 (R : FR β γ ins nin np0 L olen w0 st a w) {c : Call} {v1 v2 v3 v4 : FV} (h : c.args.toList.map (opF st) = [some v1, some v2, some v3, some v4]) : c.args.map a.eval = #[v1.val β γ, v2.val β γ, v3.val β γ, v4.val β γ] ∧ v1.lt st.np ∧ v2.lt st.np ∧ v3.lt st.np ∧ v4.lt st.np := by
  obtain ⟨x, y, z, u, hc, hx, hy, hz, hu⟩ := map4 h
  obtain ⟨e1, l1⟩ := opF_sound R hx
  obtain ⟨e2, l2⟩ := opF_sound R hy
  obtain ⟨e3, l3⟩ := opF_sound R hz
  obtain ⟨e4, l4⟩ := opF_sound R hu
  refine ⟨?_, l1, l2, l3, l4⟩
  apply Array.toList_inj.1
  rw [Array.toList_map, hc]
  simp [e1, e2, e3, e4]

/-- Where an element may be laid, the words are free. -/
theorem FR.free (R : FR β γ ins nin np0 L olen w0 st a w) {p q : Nat} (hp : p < st.np) (hc : canW np0 olen st p q = true) : Free w (β p) (γ p + q) 4 := by
  simp only [canW, Bool.and_eq_true] at hc
  obtain ⟨_, hc⟩ := hc
  split at hc
  · rename_i h0
    obtain rfl := Nat.eq_of_beq_eq_true h0
    exact R.out.sub (by omega) (by have := Nat.le_of_ble_eq_true hc; omega)
  · simp only [Bool.and_eq_true] at hc
    have h2 := hc.2
    split at h2
    · rename_i len hlen
      obtain ⟨k1, k2, k3, k4⟩ := R.loc p (Nat.le_of_ble_eq_true hc.1) hp
      rw [k3]
      exact (k4 len hlen).sub (by omega) (by have := Nat.le_of_ble_eq_true h2; omega)
    · cases h2
theorem layN_can {p q d : Nat} {e : FEx} {v : FV} {st' : FSt} (h : layN nin np0 olen st p q e d v = some st') : canW np0 olen st p q = true := by
  unfold layN at h
  split at h
  · rename_i hc
    simp only [Bool.and_eq_true] at hc
    exact hc.1
  · cases h
theorem layO_can {p q d i : Nat} {v : FV} {st' : FSt} (h : layO np0 olen st p q i d v = some st') : canW np0 olen st p q = true := by
  unfold layO at h
  split at h
  · rename_i hc
    simp only [Bool.and_eq_true] at hc
    exact hc.1
  · cases h

/-- What a call does. -/
theorem callF_sound (S : EngF P D) (R : FR β γ ins nin np0 L olen w0 st a w) {c : Call} {f d : Nat} {k : FK} {st' : FSt} (hk : D.kind f = some k) (h : callF D nin np0 olen st d k (c.args.toList.map (opF st)) = some st') {next : Act → World → Prop} (hG : FGo β γ ins nin np0 L olen w0 st' next) :
    Calls P f (c.args.map a.eval) w fun e w' => ∃ v, e = .returned v ∧ next (a.put (some d) v) w' := by
  generalize hl : c.args.toList.map (opF st) = l at h
  have refl : ∀ p, p < np0 → β p = β p ∧ γ p = γ p := fun _ _ => ⟨rfl, rfl⟩
  unfold callF at h
  split at h
  · -- mul
    rename_i p q p1 q1 p2 q2
    split at h
    · rename_i i j h1 h2
      obtain ⟨ha, l0, l1, l2⟩ := args3 R hl
      obtain ⟨i1, i2, i3, i4, i5⟩ := R.mem _ _ _ h1
      obtain ⟨j1, j2, j3, j4, j5⟩ := R.mem _ _ _ h2
      rw [ha]
      refine (S.hmul f hk _ _ _ _ _ _ _ _ w (R.blk l0) (R.blk i2) (R.blk j2) (R.free l0 (layN_can h)) i5 j5).mono ?_
      rintro e w' ⟨rfl, hT, hE⟩
      exact ⟨_, rfl, hG β γ _ _ refl (R.layN h l0 l0 hT hE)⟩
    · cases h
  · -- add
    rename_i p q p1 q1 p2 q2
    split at h
    · rename_i i j h1 h2
      obtain ⟨ha, l0, l1, l2⟩ := args3 R hl
      obtain ⟨i1, i2, i3, i4, i5⟩ := R.mem _ _ _ h1
      obtain ⟨j1, j2, j3, j4, j5⟩ := R.mem _ _ _ h2
      rw [ha]
      refine (S.hadd f hk _ _ _ _ _ _ _ _ w (R.blk l0) (R.blk i2) (R.blk j2) (R.free l0 (layN_can h)) i5 j5).mono ?_
      rintro e w' ⟨rfl, hT, hE⟩
      exact ⟨_, rfl, hG β γ _ _ refl (R.layN h l0 l0 hT hE)⟩
    · cases h
  · -- sub
    rename_i p q p1 q1 p2 q2
    split at h
    · rename_i i j h1 h2
      obtain ⟨ha, l0, l1, l2⟩ := args3 R hl
      obtain ⟨i1, i2, i3, i4, i5⟩ := R.mem _ _ _ h1
      obtain ⟨j1, j2, j3, j4, j5⟩ := R.mem _ _ _ h2
      rw [ha]
      refine (S.hsub f hk _ _ _ _ _ _ _ _ w (R.blk l0) (R.blk i2) (R.blk j2) (R.free l0 (layN_can h)) i5 j5).mono ?_
      rintro e w' ⟨rfl, hT, hE⟩
      exact ⟨_, rfl, hG β γ _ _ refl (R.layN h l0 l0 hT hE)⟩
    · cases h
  · -- sq
    split at h
    · rename_i i h1
      obtain ⟨ha, l0, l1⟩ := args2 R hl
      obtain ⟨i1, i2, i3, i4, i5⟩ := R.mem _ _ _ h1
      rw [ha]
      refine (S.hsq f hk _ _ _ _ _ w (R.blk l0) (R.blk i2) (R.free l0 (layN_can h)) i5).mono ?_
      rintro e w' ⟨rfl, hT, hE⟩
      exact ⟨_, rfl, hG β γ _ _ refl (R.layN h l0 l0 hT hE)⟩
    · cases h
  · -- set
    split at h
    · rename_i i h1
      obtain ⟨ha, l0, l1⟩ := args2 R hl
      obtain ⟨i1, i2, i3, i4, i5⟩ := R.mem _ _ _ h1
      rw [ha]
      refine (S.hset f hk _ _ _ _ _ w (R.blk l0) (R.blk i2) (R.free l0 (layO_can h)) i5).mono ?_
      rintro e w' ⟨rfl, hT, hE⟩
      exact ⟨_, rfl, hG β γ _ _ refl (R.layO h l0 l0 i1 hT hE)⟩
    · cases h
  · -- one
    obtain ⟨ha, l0⟩ := args1 R hl
    rw [ha]
    refine (S.hone f hk _ _ w (R.blk l0) (R.free l0 (layN_can h))).mono ?_
    rintro e w' ⟨rfl, hT, hE⟩
    exact ⟨_, rfl, hG β γ _ _ refl (R.layN h l0 l0 hT hE)⟩
  · -- sel
    split at h
    · rename_i i j h1 h2
      obtain ⟨ha, l0, l1, l2, _⟩ := args4 R hl
      obtain ⟨i1, i2, i3, i4, i5⟩ := R.mem _ _ _ h1
      obtain ⟨j1, j2, j3, j4, j5⟩ := R.mem _ _ _ h2
      split at h
      · rename_i hik
        obtain rfl := (by simpa using hik : _ = D.ik)
        rw [ha]
        split at h
        · rename_i hz
          obtain rfl := (by simpa using hz : _ = (1 : Int))
          refine (S.hsel f hk _ _ _ _ _ _ _ _ _ w (.inr rfl) (R.blk l0) (R.blk i2) (R.blk j2) (R.free l0 (layO_can h)) i5 j5).mono ?_
          rintro e w' ⟨rfl, hT, hE⟩
          rw [if_pos rfl] at hE
          exact ⟨_, rfl, hG β γ _ _ refl (R.layO h l0 l0 i1 hT hE)⟩
        · split at h
          · rename_i hz
            obtain rfl := (by simpa using hz : _ = (0 : Int))
            refine (S.hsel f hk _ _ _ _ _ _ _ _ _ w (.inl rfl) (R.blk l0) (R.blk i2) (R.blk j2) (R.free l0 (layO_can h)) i5 j5).mono ?_
            rintro e w' ⟨rfl, hT, hE⟩
            rw [if_neg (by decide)] at hE
            exact ⟨_, rfl, hG β γ _ _ refl (R.layO h l0 l0 j1 hT hE)⟩
          · cases h
      · cases h
    · cases h
  · -- the curve's constant
    have ha : c.args.map a.eval = #[] := by
      apply Array.toList_inj.1
      rw [Array.toList_map, List.map_eq_nil_iff.1 hl]
      rfl
    rw [ha]
    refine (S.hB f hk w).mono ?_
    rintro e w' ⟨b, rfl, h1, h2, hE, hF, hx⟩
    have hnp := R.np
    refine ⟨_, rfl, hG _ _ _ _ (fun p hp => ⟨updN_off _ _ _ _ (by omega), updN_off _ _ _ _ (by omega)⟩) (R.newB h hE h1 h2 hF fun q hq => ?_)⟩
    rcases hq with rfl | ⟨hq, _⟩
    · exact hx
    · exact absurd hq (by decide)
  · -- squares
    split at h
    · rename_i i h1
      split at h
      · rename_i hz
        simp only [Bool.and_eq_true, decide_eq_true_eq] at hz
        obtain ⟨⟨rfl, z1⟩, z2⟩ := hz
        obtain ⟨ha, l0, l1, _⟩ := args3 R hl
        obtain ⟨i1, i2, i3, i4, i5⟩ := R.mem _ _ _ h1
        rw [ha]
        refine (S.hsqn f hk _ _ _ _ _ _ w z1 z2 (R.blk l0) (R.blk i2) (R.free l0 (layN_can h)) i5).mono ?_
        rintro e w' ⟨rfl, hT, hE⟩
        exact ⟨_, rfl, hG β γ _ _ refl (R.layN h l0 trivial hT hE)⟩
      · cases h
    · cases h
  · cases h

theorem stepF_sound (S : EngF P D) (R : FR β γ ins nin np0 L olen w0 st a w) {st' : FSt} (h : stepF D nin np0 olen st o = some st') :
    o.guard = none ∧ ∀ (next : Act → World → Prop) (Q : Exit → Act → World → Prop), FGo β γ ins nin np0 L olen w0 st' next → o.wp P a w next Q := by
  unfold stepF at h
  split at h
  case h_2 => cases h
  rename_i d hg hd
  refine ⟨hg, fun next Q hG => ?_⟩
  split at h
  · rename_i v hv
    split at h
    · rename_i hlt
      obtain rfl := Option.some.inj h
      obtain ⟨h1, h2⟩ := pureF_sound S R hv
      unfold Oper.wp
      rw [h2]
      simp only [Oper.upon, hd]
      exact hG β γ _ _ (fun _ _ => ⟨rfl, rfl⟩) (R.put (by simpa [Nat.blt_eq] using hlt) h1)
    · cases h
  · split at h
    · -- alloc
      rename_i t ho
      split at h
      · rename_i len ht
        split at h
        · rename_i hlen
          unfold Oper.wp execOp
          simp only [ho]
          rw [Sem.run_bind, S.halc t len ht w]
          simp only [Result.andThen_ok, Sem.run_pure, Oper.upon, hd]
          have hnp := R.np
          have hat := heap_at w (.cells (List.replicate len (Value.int .u64 0)).toArray t) w.heap.size rfl
          have hL : len = 4 ∨ len = 12 := by
            simp only [Bool.or_eq_true] at hlen
            exact hlen.imp Nat.eq_of_beq_eq_true Nat.eq_of_beq_eq_true
          refine hG _ _ _ _ (fun p hp => ⟨updN_off _ _ _ _ (by omega), updN_off _ _ _ _ (by omega)⟩) (R.newB h ?_ (Nat.le_refl _) (by rw [size_alloc]; omega) (Free.zero t hat) fun q hq => Elt.zero t hat ?_)
          · exact Ext.of_below ⟨rfl, rfl, rfl, by rw [size_alloc]; omega, fun k hk => heap_past _ _ _ hk⟩
          · rcases hq with rfl | ⟨rfl, rfl | rfl⟩
            · omega
            · decide
            · decide
        · cases h
      · cases h
    · rename_i c ho
      split at h
      · rename_i f hf
        split at h
        · rename_i k hk
          unfold Oper.wp
          rw [run_call_func ho hf, S.enter f k hk]
          simp only [Oper.upon]
          refine (callF_sound S R hk h hG).mono ?_
          rintro e w' ⟨v, rfl, hn⟩
          simp only [hd]
          exact hn
        · cases h
      · cases h
    · cases h

/-! Lists, regions, code. -/
def runL (D : FD) (nin np0 olen : Nat) : List Oper → FSt → Option FSt
  | [], st => some st
  | o :: l, st => match stepF D nin np0 olen st o with
    | some st' => runL D nin np0 olen l st'
    | none => none

theorem FGo.move {st' : FSt} {next : Act → World → Prop} {β' γ' : Nat → Nat} (h : FGo β γ ins nin np0 L olen w0 st' next) (hp : ∀ p, p < np0 → β' p = β p ∧ γ' p = γ p) : FGo β' γ' ins nin np0 L olen w0 st' next :=
  fun β2 γ2 a2 w2 h1 R2 => h β2 γ2 a2 w2 (fun p hp' => ⟨(h1 p hp').1.trans (hp p hp').1, (h1 p hp').2.trans (hp p hp').2⟩) R2

theorem runL_sound (S : EngF P D) {ops : Array Oper} {Q : Exit → Act → World → Prop} : ∀ (l : List Oper) {st : FSt} {a : Act} {w : World} {β γ : Nat → Nat} {st' : FSt}, runL D nin np0 olen l st = some st' → FR β γ ins nin np0 L olen w0 st a w →
    FGo β γ ins nin np0 L olen w0 st' (fun a' w' => Q .normal a' w') → wpList P ops Q l a w
  | [], st, a, w, β, γ, st', h, R, hG => by
    obtain rfl := Option.some.inj h
    exact hG β γ a w (fun _ _ => ⟨rfl, rfl⟩) R
  | o :: l, st, a, w, β, γ, st', h, R, hG => by
    simp only [runL] at h
    split at h
    · rename_i st1 hs
      obtain ⟨hg, hgo⟩ := stepF_sound S R hs
      refine wpList_plain hg fun K hK => ?_
      refine hgo K Q ?_
      intro β' γ' a' w' hp R'
      exact hK _ _ (runL_sound S l h R' (hG.move hp))
    · cases h

/-- The first operation of these that turns nothing and may be taken first. -/
def firstPure (D : FD) (st : FSt) (ops : Array Oper) (listed : Array Bool) : List Nat → Option (Nat × FSt)
  | [] => none
  | i :: r => match ops[i]? with
    | some o => match o.guard, o.dst, pureF D st o with
      | none, some d, some v => if Nat.blt d st.sz && Region.free .any ops listed i then some (i, { st with env := (d, v) :: st.env }) else firstPure D st ops listed r
      | _, _, _ => firstPure D st ops listed r
    | none => firstPure D st ops listed r

/-- A new block and the curve's constant, in either order. -/
def isAlc (D : FD) (o : Oper) : Option (Nat × Nat) :=
  match o.guard, o.dst, o.op with
  | none, some d, .alloc t => match D.alc t with
    | some len => if Nat.beq len 4 || Nat.beq len 12 then some (len, d) else none
    | none => none
  | _, _, _ => none
def isB (D : FD) (o : Oper) : Option Nat :=
  match o.guard, o.dst, o.op with
  | none, some d, .call c => match c.callee with
    | .value (.func f) => match D.kind f, c.args.toList with
      | some .b, [] => some d
      | _, _ => none
    | _ => none
  | _, _, _ => none
def pairF (D : FD) (nin : Nat) (st : FSt) (oi oj : Oper) : Option FSt :=
  match isAlc D oi, isB D oj with
  | some (len, di), some dj => if Nat.beq di dj then none else match newB nin st len .zero di with
    | some st1 => newB nin st1 4 .cb dj
    | none => none
  | _, _ => none
def isOne : List Nat → Nat → Bool
  | [x], y => Nat.beq x y
  | _, _ => false

def runR (D : FD) (nin np0 olen : Nat) (ops : Array Oper) : Nat → Array Bool → FSt → Option FSt
  | 0, listed, st => match Region.ready .any ops listed with
    | [] => some st
    | _ => none
  | f + 1, listed, st => match Region.ready .any ops listed with
    | [] => some st
    | i :: r => match firstPure D st ops listed (i :: r) with
      | some (j, st') => runR D nin np0 olen ops f (listed.setIfInBounds j true) st'
      | none => match r with
        | [] => match ops[i]? with
          | some o => match stepF D nin np0 olen st o with
            | some st' => runR D nin np0 olen ops f (listed.setIfInBounds i true) st'
            | none => none
          | none => none
        | [j] => match f with
          | 0 => none
          | g + 1 => match ops[i]?, ops[j]? with
            | some oi, some oj => if isOne (Region.ready .any ops (listed.setIfInBounds i true)) j && isOne (Region.ready .any ops (listed.setIfInBounds j true)) i then
                match pairF D nin st oi oj with
                | some st' => runR D nin np0 olen ops g ((listed.setIfInBounds i true).setIfInBounds j true) st'
                | none => none
              else none
            | _, _ => none
        | _ => none

theorem firstPure_spec {ops : Array Oper} {listed : Array Bool} : ∀ {r : List Nat} {j : Nat} {st' : FSt}, firstPure D st ops listed r = some (j, st') →
    j ∈ r ∧ ∃ o d v, ops[j]? = some o ∧ o.guard = none ∧ o.dst = some d ∧ pureF D st o = some v ∧ d < st.sz ∧ Region.free .any ops listed j = true ∧ st' = { st with env := (d, v) :: st.env }
  | [], j, st', h => by simp [firstPure] at h
  | i :: r, j, st', h => by
    simp only [firstPure] at h
    split at h
    · rename_i o ho
      split at h
      · rename_i d v hg hd hv
        split at h
        · rename_i hc
          simp only [Bool.and_eq_true] at hc
          obtain ⟨rfl, rfl⟩ := Prod.mk.inj (Option.some.inj h)
          exact ⟨List.mem_cons_self, o, d, v, ho, hg, hd, hv, by simpa [Nat.blt_eq] using hc.1, hc.2, rfl⟩
        · obtain ⟨h1, h2⟩ := firstPure_spec h
          exact ⟨List.mem_cons_of_mem _ h1, h2⟩
      · obtain ⟨h1, h2⟩ := firstPure_spec h
        exact ⟨List.mem_cons_of_mem _ h1, h2⟩
    · obtain ⟨h1, h2⟩ := firstPure_spec h
      exact ⟨List.mem_cons_of_mem _ h1, h2⟩

theorem wanted_none {o : Oper} (hg : o.guard = none) (ys : Nat → Option Bool) : Region.wanted o ys = true := by
  unfold Region.wanted; simp [hg]

theorem isOne_spec {l : List Nat} {y : Nat} (h : isOne l y = true) : l = [y] := by
  unfold isOne at h
  split at h
  · rw [Nat.eq_of_beq_eq_true h]
  · cases h
theorem isAlc_spec {o : Oper} {len d : Nat} (h : isAlc D o = some (len, d)) : o.guard = none ∧ o.dst = some d ∧ ∃ t, o.op = .alloc t ∧ D.alc t = some len ∧ (len = 4 ∨ len = 12) := by
  unfold isAlc at h
  split at h
  · rename_i d' t hg hd ho
    split at h
    · rename_i len' hl
      split at h
      · rename_i hc
        obtain ⟨rfl, rfl⟩ := Prod.mk.inj (Option.some.inj h)
        simp only [Bool.or_eq_true] at hc
        exact ⟨hg, hd, t, ho, hl, hc.imp Nat.eq_of_beq_eq_true Nat.eq_of_beq_eq_true⟩
      · cases h
    · cases h
  · cases h
theorem isB_spec {o : Oper} {d : Nat} (h : isB D o = some d) : o.guard = none ∧ o.dst = some d ∧ ∃ c f, o.op = .call c ∧ c.callee = .value (.func f) ∧ D.kind f = some .b ∧ c.args = #[] := by
  unfold isB at h
  split at h
  · rename_i d' c hg hd ho
    split at h
    · rename_i f hf
      split at h
      · rename_i hk ha
        obtain rfl := Option.some.inj h
        exact ⟨hg, hd, c, f, ho, hf, hk, Array.toList_inj.1 (by rw [ha])⟩
      · cases h
    · cases h
  · cases h
theorem alc_run (S : EngF P D) {o : Oper} {t : TypeId} {len : Nat} (ho : o.op = .alloc t) (hl : D.alc t = some len) (a : Act) (w : World) : (execOp a.eval o).run P w = .ok (.value (.pointer (some ⟨w.heap.size, 0, none⟩))) (w.alloc (.cells (List.replicate len (Value.int .u64 0)).toArray t)) := by
  unfold execOp
  simp only [ho]
  rw [Sem.run_bind, S.halc t len hl w]
  simp only [Result.andThen_ok, Sem.run_pure]
theorem b_run (S : EngF P D) {o : Oper} {c : Call} {f : FuncId} (ho : o.op = .call c) (hf : c.callee = .value (.func f)) (hk : D.kind f = some .b) (ha : c.args = #[]) (a : Act) (w : World) : (execOp a.eval o).run P w = .ok (.enter f #[]) w := by
  rw [run_call_func ho hf, ha, show (#[] : Array Operand).map a.eval = #[] by simp]
  exact S.enter f .b hk _ w
theorem set_self (listed : Array Bool) (i : Nat) : (listed.setIfInBounds i true).getD i true = true := by
  rw [Array.getD_eq_getD_getElem?]
  by_cases h : i < listed.size
  · simp [h]
  · simp [h]

theorem runR_sound (S : EngF P D) {ops : Array Oper} {Q : Exit → Act → World → Prop} (hsel : Region.noSelect ops = true) (hQ : ∀ c a w, ¬ Q (.panic c) a w) :
    ∀ (f : Nat) {listed : Array Bool} {st : FSt} {a : Act} {w : World} {β γ : Nat → Nat} {st' : FSt}, runR D nin np0 olen ops f listed st = some st' → FR β γ ins nin np0 L olen w0 st a w →
    FGo β γ ins nin np0 L olen w0 st' (fun a' w' => Q .normal a' w') → wpAny P .any ops Q f listed a w
  | 0, listed, st, a, w, β, γ, st', h, R, hG => by
    simp only [runR] at h
    split at h
    · rename_i hr
      obtain rfl := Option.some.inj h
      exact wpAny_done hr (hG β γ a w (fun _ _ => ⟨rfl, rfl⟩) R) 0
    · cases h
  | f + 1, listed, st, a, w, β, γ, st', h, R, hG => by
    simp only [runR] at h
    split at h
    · rename_i hr
      obtain rfl := Option.some.inj h
      exact wpAny_done hr (hG β γ a w (fun _ _ => ⟨rfl, rfl⟩) R) _
    · rename_i i r hr
      split at h
      · rename_i j st1 hp
        obtain ⟨hm, o, d, v, ho, hg, hd, hv, hlt, hf, rfl⟩ := firstPure_spec hp
        obtain ⟨h1, h2⟩ := pureF_sound S R hv
        refine wpAny_take ho hsel hf (by rw [hr]; simpa using hm) (fun c a w hc => absurd hc (hQ _ _ _)) (v := v.val β γ) (.inl ⟨wanted_none hg _, h2⟩) ?_
        rw [hd]
        exact runR_sound S hsel hQ f h (R.put hlt h1) hG
      · split at h
        · split at h
          · rename_i o ho
            split at h
            · rename_i st1 hs
              obtain ⟨hg, hgo⟩ := stepF_sound S R hs
              refine wpAny_all hr (by simp) fun i' hi' => ?_
              obtain rfl : i' = i := by simpa using hi'
              refine wpOp_step ho fun K hK => ?_
              rw [if_pos (wanted_none hg _)]
              refine hgo K Q ?_
              intro β' γ' a' w' hp R'
              exact hK _ _ (runR_sound S hsel hQ f h R' (hG.move hp))
            · cases h
          · cases h
        · rename_i j hfp
          split at h
          · cases h
          · rename_i g
            split at h
            · rename_i oi oj hoi hoj
              split at h
              · rename_i hone
                simp only [Bool.and_eq_true] at hone
                have hr1 := isOne_spec hone.1
                have hr2 := isOne_spec hone.2
                split at h
                · rename_i st2 hp
                  unfold pairF at hp
                  split at hp
                  · rename_i len di dj hi hj
                    split at hp
                    · cases hp
                    · rename_i hne
                      have hne' : di ≠ dj := fun e => hne (by rw [e]; exact Nat.beq_refl _)
                      split at hp
                      · rename_i st1 hn1
                        obtain ⟨gi, ddi, t, oti, hlen, hl4⟩ := isAlc_spec hi
                        obtain ⟨gj, ddj, c, fj, otj, hcal, hkj, hargs⟩ := isB_spec hj
                        have hnp := R.np
                        have hnp1 : st1.np = st.np + 1 := by
                          unfold newB at hn1
                          split at hn1
                          · rw [← Option.some.inj hn1]
                          · cases hn1
                        have hz : ∀ {cc : Nat} {ww : World}, ww.heap[cc]? = some (.cells (List.replicate len (Value.int .u64 0)).toArray t) → ∀ q, (q = 0 ∨ (len = 12 ∧ (q = 4 ∨ q = 8))) → Elt ww cc q (evF (denF ins nin st.defs) .zero) := fun hat q hq => Elt.zero t hat (by
                          rcases hq with rfl | ⟨rfl, rfl | rfl⟩
                          · rcases hl4 with rfl | rfl <;> decide
                          · decide
                          · decide)
                        have hb4 : ∀ {dd : Nat} {ww : World}, Elt ww dd 0 cB → ∀ q, (q = 0 ∨ ((4 : Nat) = 12 ∧ (q = 4 ∨ q = 8))) → Elt ww dd q (evF (denF ins nin st1.defs) .cb) := fun hE q hq => by
                          rcases hq with rfl | ⟨hq, _⟩
                          · exact hE
                          · exact absurd hq (by decide)
                        refine wpAny_all hr (by simp) fun i' hi' => ?_
                        rcases (by simpa using hi' : i' = i ∨ i' = j) with h0 | h0
                        · -- the block first
                          rw [h0]
                          refine wpOp_step hoi fun K hK => ?_
                          rw [if_pos (wanted_none gi _)]
                          unfold Oper.wp
                          rw [alc_run S oti hlen]
                          simp only [Oper.upon, ddi]
                          refine hK _ _ (wpAny_all hr1 (by simp) fun j' hj' => ?_)
                          have h5 : j' = j := by simpa using hj'
                          rw [h5]
                          refine wpOp_step hoj fun K2 hK2 => ?_
                          rw [if_pos (wanted_none gj _)]
                          unfold Oper.wp
                          rw [b_run S otj hcal hkj hargs]
                          simp only [Oper.upon]
                          have hat := heap_at w (.cells (List.replicate len (Value.int .u64 0)).toArray t) w.heap.size rfl
                          have R1 := R.newB (w' := w.alloc (.cells (List.replicate len (Value.int .u64 0)).toArray t)) hn1 (Ext.of_below ⟨rfl, rfl, rfl, by rw [size_alloc]; omega, fun k hk => heap_past _ _ _ hk⟩) (Nat.le_refl _) (by rw [size_alloc]; omega) (Free.zero t hat) (hz hat)
                          refine (S.hB fj hkj _).mono ?_
                          rintro e w2 ⟨b, rfl, hb1, hb2, hE2, hF2, hx2⟩
                          simp only [ddj]
                          have R2 := R1.newB hp hE2 hb1 hb2 hF2 (hb4 hx2)
                          exact hK2 _ _ (runR_sound S hsel hQ g h R2 (hG.move fun p hp' => ⟨by rw [updN_off _ _ _ _ (by omega), updN_off _ _ _ _ (by omega)], by rw [updN_off _ _ _ _ (by omega), updN_off _ _ _ _ (by omega)]⟩))
                        · -- the constant first
                          rw [h0]
                          refine wpOp_step hoj fun K hK => ?_
                          rw [if_pos (wanted_none gj _)]
                          unfold Oper.wp
                          rw [b_run S otj hcal hkj hargs]
                          simp only [Oper.upon]
                          refine (S.hB fj hkj _).mono ?_
                          rintro e w2 ⟨b, rfl, hb1, hb2, hE2, hF2, hx2⟩
                          simp only [ddj]
                          refine hK _ _ (wpAny_all hr2 (by simp) fun j' hj' => ?_)
                          have h5 : j' = i := by simpa using hj'
                          rw [h5]
                          refine wpOp_step hoi fun K2 hK2 => ?_
                          rw [if_pos (wanted_none gi _)]
                          unfold Oper.wp
                          rw [alc_run S oti hlen]
                          simp only [Oper.upon, ddi]
                          have hat := heap_at w2 (.cells (List.replicate len (Value.int .u64 0)).toArray t) w2.heap.size rfl
                          have hE3 : Ext w2 (w2.alloc (.cells (List.replicate len (Value.int .u64 0)).toArray t)) := Ext.of_below ⟨rfl, rfl, rfl, by rw [size_alloc]; omega, fun k hk => heap_past _ _ _ hk⟩
                          have hsz := hE2.below.size
                          have R1 := R.newB hn1 (hE2.trans hE3) hsz (by rw [size_alloc]; omega) (Free.zero t hat) (hz hat)
                          obtain ⟨g3, hg3⟩ := hE3
                          have R2 := R1.newB0 (b := b) hp (Ext.refl _) (Nat.le_trans R.trn.size hb1) (fun p hp' e => by
                            by_cases hpn : p = st.np
                            · rw [hpn, updN_at] at e; omega
                            · rw [updN_off _ _ _ _ hpn] at e
                              have := R.blk (show p < st.np by omega)
                              omega) (by rw [size_alloc]; omega) (by rw [hg3]; exact hF2.ext hb2 g3) (hb4 (by rw [hg3]; exact hx2.ext hb2 g3))
                          rw [Act.put_comm _ _ _ (fun d hd hd' => hne' (by rw [Option.some.inj hd, Option.some.inj hd']))] at R2
                          have hij : i ≠ j := fun e => by
                            have hm : j ∈ Region.ready .any ops (listed.setIfInBounds i true) := by rw [hr1]; simp
                            have := (mem_ready.1 hm).1
                            rw [← e, set_self] at this
                            cases this
                          rw [Array.setIfInBounds_comm _ _ hij] at h
                          exact hK2 _ _ (runR_sound S hsel hQ g h R2 (hG.move fun p hp' => ⟨by rw [updN_off _ _ _ _ (by omega), updN_off _ _ _ _ (by omega)], by rw [updN_off _ _ _ _ (by omega), updN_off _ _ _ _ (by omega)]⟩))
                      · cases hp
                  · cases hp
                · cases h
              · cases h
            · cases h
        · cases h
end
end Go.Proofs.Ytgdjmgcolipcnaa
/-
  What is proved here: the engine on elements: code, calls, and how it starts at pointers. No program in sight.
  Conditions: those of each theorem.
-/
namespace Go.Proofs.Ytgdjmgcolipcnaa
open Go Go.RowKit Ecp
set_option linter.unusedSimpArgs false
set_option linter.unusedVariables false

section
variable {P : Program} {D : FD} {β γ : Nat → Nat} {ins : Nat → Fp} {nin np0 L olen : Nat} {w0 : World} {st : FSt} {a : Act} {w : World} {o : Oper}

def runCF (D : FD) (nin np0 olen : Nat) : Code → FSt → Option (FSt × Bool)
  | .skip, st => some (st, false)
  | .ret, st => some (st, true)
  | .region _ ops d, st => match d with
    | false => (runL D nin np0 olen ops.toList st).map fun s => (s, false)
    | true => if Region.noSelect ops then (runR D nin np0 olen ops ops.size (Array.replicate ops.size false) st).map fun s => (s, false) else none
  | .seq x y, st => match runCF D nin np0 olen x st with
    | some (st1, false) => runCF D nin np0 olen y st1
    | some (st1, true) => some (st1, true)
    | none => none
  | _, _ => none

theorem runCF_sound (S : EngF P D) : ∀ (c : Code) {Q : Exit → Act → World → Prop} {st : FSt} {a : Act} {w : World} {β γ : Nat → Nat} {st' : FSt} {r : Bool}, runCF D nin np0 olen c st = some (st', r) → FR β γ ins nin np0 L olen w0 st a w →
    FGo β γ ins nin np0 L olen w0 st' (fun a' w' => Q (if r then .ret else .normal) a' w') → c.wp P Q a w := by
  intro c
  induction c with
  | skip =>
    intro Q st a w β γ st' r h R hG
    simp only [runCF] at h
    obtain ⟨rfl, rfl⟩ := Prod.mk.inj (Option.some.inj h)
    exact wp_skip (hG β γ a w (fun _ _ => ⟨rfl, rfl⟩) R)
  | ret =>
    intro Q st a w β γ st' r h R hG
    simp only [runCF] at h
    obtain ⟨rfl, rfl⟩ := Prod.mk.inj (Option.some.inj h)
    exact wp_ret (hG β γ a w (fun _ _ => ⟨rfl, rfl⟩) R)
  | region id ops d =>
    intro Q st a w β γ st' r h R hG
    cases d <;> simp only [runCF] at h
    · obtain ⟨s1, h1, h2⟩ := Option.map_eq_some_iff.1 h
      obtain ⟨rfl, rfl⟩ := Prod.mk.inj h2
      obtain ⟨l⟩ := ops
      exact wp_region_lit (runL_sound S _ h1 R hG)
    · split at h
      · rename_i hsel
        obtain ⟨s1, h1, h2⟩ := Option.map_eq_some_iff.1 h
        obtain ⟨rfl, rfl⟩ := Prod.mk.inj h2
        refine Code.wp_mono (Q := fun e a w => e = .normal ∧ Q .normal a w) (fun e a w he => by obtain ⟨rfl, he⟩ := he; exact he) ?_
        refine wp_region_any S.fol ?_
        refine runR_sound S hsel (fun c a w hc => by cases hc.1) _ h1 (R.drewN 1) ?_
        intro β' γ' a' w' hp R'
        exact ⟨rfl, hG β' γ' a' w' hp R'⟩
      · cases h
  | seq x y ihx ihy =>
    intro Q st a w β γ st' r h R hG
    simp only [runCF] at h
    split at h
    · rename_i st1 hx
      refine wp_seq (ihx hx R ?_)
      intro β' γ' a' w' hp R'
      exact ihy h R' (hG.move hp)
    · rename_i st1 hx
      obtain ⟨rfl, rfl⟩ := Prod.mk.inj (Option.some.inj h)
      exact wp_seq (ihx hx R hG)
    · cases h
  | _ => intro Q st a w β γ st' r h; simp only [runCF] at h; cases h

/-- A function that returns one slot, run by the engine. -/
theorem engF_call (S : EngF P D) {f : FuncId} {fn : Func} {c : Code} {args : Array Value} {r : Bool} {st' : FSt} {t : Nat} {v : FV} (hf : P.funcs[f]? = some fn) (hb : fn.body = some c) (hres : fn.results = #[.tmp t])
    (hrun : runCF D nin np0 olen c st = some (st', r)) (hv : lookL st'.env t = some v) (R : FR β γ ins nin np0 L olen w st { tmps := args ++ Array.replicate (fn.ntmps - args.size) undef, defers := [] } w) :
    Calls P f args w fun e w' => ∃ β' γ' a', e = .returned (v.val β' γ') ∧ (∀ p, p < np0 → β' p = β p ∧ γ' p = γ p) ∧ FR β' γ' ins nin np0 L olen w st' a' w' := by
  refine calls_of_wp hf hb (runCF_sound S c hrun R ?_)
  intro β' γ' a' w' hp R'
  have hr : (results fn a'.tmps).run P w' = .ok (v.val β' γ') w' := by
    rw [results_tmp hres, Array.getD_eq_getD_getElem?, (R'.env t v hv).1]
    rfl
  cases r
  · exact bodyPost_end hr R'.dfr ⟨β', γ', a', rfl, hp, R'⟩
  · exact bodyPost_ret hr R'.dfr ⟨β', γ', a', rfl, hp, R'⟩

/-! Starts. -/
theorem lookL_mem {A : Type} : ∀ {l : List (Nat × A)} {t : Nat} {v : A}, lookL l t = some v → (t, v) ∈ l
  | (t', v') :: l, t, v, h => by
    simp only [lookL] at h
    split at h
    · rename_i he
      obtain rfl := Nat.eq_of_beq_eq_true he
      obtain rfl := Option.some.inj h
      exact List.mem_cons_self
    · exact List.mem_cons_of_mem _ (lookL_mem h)
theorem lookP_mem : ∀ {l : MemF} {p q i : Nat}, lookP l p q = some i → ((p, q), i) ∈ l
  | ((p', q'), j) :: l, p, q, i, h => by
    simp only [lookP] at h
    split at h
    · rename_i he
      simp only [Bool.and_eq_true] at he
      have e1 := Nat.eq_of_beq_eq_true he.1
      have e2 := Nat.eq_of_beq_eq_true he.2
      subst e1 e2
      obtain rfl := Option.some.inj h
      exact List.mem_cons_self
    · exact List.mem_cons_of_mem _ (lookP_mem h)

/-- The start: slots that hold parameters, places that hold the names that came in. -/
theorem FR.start {sz nin np0 L olen : Nat} {env : List (Nat × FV)} {mem : MemF} {args : Array Value} {n : Nat} (hn : n = sz) (hsz : args.size ≤ sz)
    (henv : ∀ t v, (t, v) ∈ env → t < args.size ∧ args[t]? = some (v.val β γ) ∧ v.lt np0) (hpos : 0 < np0)
    (hmem : ∀ p q i, ((p, q), i) ∈ mem → i < nin ∧ p < np0 ∧ q % 4 = 0 ∧ q + 4 ≤ L ∧ Elt w (β p) (γ p + q) (ins i))
    (hpar : ∀ p, p < np0 → β p < w.heap.size) {al : Bool} (hsep : ∀ p, 0 < p → p < np0 → β p ≠ β 0 ∨ (al = true ∧ γ p = γ 0) ∨ γ p + L ≤ γ 0 ∨ γ 0 + L ≤ γ p) (hout : Free w (β 0) (γ 0) olen) (hoL : olen ≤ L) :
    FR β γ ins nin np0 L olen w { sz := sz, np := np0, env := env, defs := [], mem := mem, lens := [], al := al } { tmps := args ++ Array.replicate (n - args.size) undef, defers := [] } w := by
  refine ⟨?_, ?_, rfl, ?_, Nat.le_refl _, hpos, hpar, hsep, ?_, ?_, ?_, hout, hoL, Turned.refl _ _ _ _⟩
  · simp; omega
  · intro t v ht
    obtain ⟨h1, h2, h3⟩ := henv t v (lookL_mem ht)
    exact ⟨by rw [Array.getElem?_append_left h1]; exact h2, h3⟩
  · intro p q i h
    obtain ⟨h1, h2, h3, h4, h5⟩ := hmem p q i (lookP_mem h)
    exact ⟨h1, h2, h3, fun _ => h4, h5⟩
  · intro p h1 h2
    simp only at h2
    omega
  · intro p len h
    simp [lookL] at h
  · intro p q h1 h2
    simp only at h2
    omega
end
end Go.Proofs.Ytgdjmgcolipcnaa
