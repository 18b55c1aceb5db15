/-
  What is proved here: an engine that runs straight-line code on elements of the field by name, and that what it says is what the code does. No program in sight.
  Conditions: those of each theorem.
-/
import Derived.Test.YtblhnmahkabmiaaElt
import Derived.RegionTactic
namespace Go.Proofs.Ytblhnmahkabmiaa
open Go Go.RowKit Ecp
set_option linter.unusedSimpArgs false
set_option linter.unusedVariables false

/-- What a slot holds. -/
inductive FV where
  | ptr (p o : Nat)
  | nil
  | int (k : IntKind) (z : Int)
  | unit
/-- What a name stands for. -/
inductive FEx where
  | mul (i j : Nat)
  | add (i j : Nat)
  | sub (i j : Nat)
  | sqn (i k : Nat)
  | one
  | zero
  | cb
/-- The kinds of functions that the engine knows. -/
inductive FK where
  | mul
  | add
  | sub
  | sq
  | set
  | one
  | sel
  | b
  | sqn

def evF (ρ : Nat → Fp) : FEx → Fp
  | .mul i j => ρ i * ρ j
  | .add i j => ρ i + ρ j
  | .sub i j => ρ i - ρ j
  | .sqn i k => fpow (ρ i) (2 ^ k)
  | .one => 1
  | .zero => 0
  | .cb => cB
def denF (ins : Nat → Fp) (nin : Nat) : List FEx → Nat → Fp
  | [], i => ins i
  | e :: ds, i => if i = nin + ds.length then evF (denF ins nin ds) e else denF ins nin ds i
theorem denF_lt {ins : Nat → Fp} {nin : Nat} {e : FEx} {ds : List FEx} {i : Nat} (h : i < nin + ds.length) : denF ins nin (e :: ds) i = denF ins nin ds i := by
  simp only [denF]; rw [if_neg (by omega)]
theorem denF_last {ins : Nat → Fp} {nin : Nat} {e : FEx} {ds : List FEx} : denF ins nin (e :: ds) (nin + ds.length) = evF (denF ins nin ds) e := by
  show (if nin + ds.length = nin + ds.length then _ else _) = _
  exact if_pos rfl
theorem denF_in {ins : Nat → Fp} {nin : Nat} : ∀ {ds : List FEx} {i : Nat}, i < nin → denF ins nin ds i = ins i
  | [], i, h => rfl
  | e :: ds, i, h => by rw [denF_lt (by omega)]; exact denF_in h

def FEx.below (n : Nat) : FEx → Bool
  | .mul i j => Nat.blt i n && Nat.blt j n
  | .add i j => Nat.blt i n && Nat.blt j n
  | .sub i j => Nat.blt i n && Nat.blt j n
  | .sqn i _ => Nat.blt i n
  | _ => true
def inScope (nin : Nat) : List FEx → Bool
  | [] => true
  | e :: ds => e.below (nin + ds.length) && inScope nin ds
theorem evF_congr {ρ ρ' : Nat → Fp} {n : Nat} {e : FEx} (h : e.below n = true) (hr : ∀ i, i < n → ρ i = ρ' i) : evF ρ e = evF ρ' e := by
  have lt : ∀ {i : Nat}, Nat.blt i n = true → i < n := fun h => by simpa [Nat.blt_eq] using h
  cases e <;> simp only [FEx.below, Bool.and_eq_true] at h <;> simp only [evF]
  case mul => rw [hr _ (lt h.1), hr _ (lt h.2)]
  case add => rw [hr _ (lt h.1), hr _ (lt h.2)]
  case sub => rw [hr _ (lt h.1), hr _ (lt h.2)]
  case sqn => rw [hr _ (lt h)]
theorem FEx.below_mono {n n' : Nat} (hn : n ≤ n') {e : FEx} (h : e.below n = true) : e.below n' = true := by
  have lt : ∀ {i m : Nat}, Nat.blt i m = true ↔ i < m := by intro i m; simp [Nat.blt_eq]
  cases e <;> simp only [FEx.below, Bool.and_eq_true, lt] at h ⊢ <;> omega
theorem inScope_below {nin : Nat} : ∀ {ds : List FEx} (hs : inScope nin ds = true) {i : Nat} {e : FEx}, i < ds.length → ds[ds.length - 1 - i]? = some e → e.below (nin + ds.length) = true
  | [], _, i, e, h, _ => by simp at h
  | d :: ds, hs, i, e, h, he => by
    simp only [inScope, Bool.and_eq_true] at hs
    by_cases hi : i = ds.length
    · subst hi
      simp only [List.length_cons, Nat.add_sub_cancel, Nat.sub_self, List.getElem?_cons_zero] at he
      obtain rfl := Option.some.inj he
      exact FEx.below_mono (by simp) hs.1
    · have hi' : i < ds.length := by simp only [List.length_cons] at h; omega
      have he' : ds[ds.length - 1 - i]? = some e := by
        rw [List.length_cons, show ds.length + 1 - 1 - i = (ds.length - 1 - i) + 1 by omega, List.getElem?_cons_succ] at he
        exact he
      exact FEx.below_mono (by simp) (inScope_below hs.2 hi' he')
theorem denF_at {ins : Nat → Fp} {nin : Nat} : ∀ {ds : List FEx} (hs : inScope nin ds = true) {i : Nat} {e : FEx}, i < ds.length → ds[ds.length - 1 - i]? = some e → denF ins nin ds (nin + i) = evF (denF ins nin ds) e
  | [], _, i, e, h, _ => by simp at h
  | d :: ds, hs, i, e, h, he => by
    simp only [inScope, Bool.and_eq_true] at hs
    by_cases hi : i = ds.length
    · subst hi
      simp only [List.length_cons, Nat.add_sub_cancel, Nat.sub_self, List.getElem?_cons_zero] at he
      obtain rfl := Option.some.inj he
      rw [denF_last]
      exact evF_congr hs.1 fun j hj => (denF_lt hj).symm
    · have hi' : i < ds.length := by simp only [List.length_cons] at h; omega
      have he' : ds[ds.length - 1 - i]? = some e := by
        rw [List.length_cons, show ds.length + 1 - 1 - i = (ds.length - 1 - i) + 1 by omega, List.getElem?_cons_succ] at he
        exact he
      rw [denF_lt (by omega), denF_at hs.2 hi' he']
      have hb : e.below (nin + ds.length) = true := inScope_below hs.2 hi' he'
      exact evF_congr hb fun j hj => (denF_lt hj).symm

def FV.val (β γ : Nat → Nat) : FV → Value
  | .ptr p o => .pointer (some ⟨β p, γ p + o, none⟩)
  | .nil => .pointer none
  | .int k z => .int k z
  | .unit => .tuple #[]
def FV.lt (m : Nat) : FV → Prop
  | .ptr p _ => p < m
  | _ => True
theorem FV.lt_mono {m m' : Nat} (h : m ≤ m') {v : FV} (hv : v.lt m) : v.lt m' := by
  cases v <;> first | exact Nat.lt_of_lt_of_le hv h | trivial

/-- The program's own numbers. -/
structure FD where
  kind : Nat → Option FK
  fld : Nat → Nat → Option Nat
  alc : Nat → Option Nat
  ik : IntKind

abbrev MemF := List ((Nat × Nat) × Nat)
structure FSt where
  sz : Nat
  np : Nat
  env : List (Nat × FV)
  defs : List FEx
  mem : MemF
  lens : List (Nat × Nat)
  al : Bool

def lookL {A : Type} : List (Nat × A) → Nat → Option A
  | [], _ => none
  | (t, v) :: l, i => if Nat.beq t i then some v else lookL l i
def lookP : MemF → Nat → Nat → Option Nat
  | [], _, _ => none
  | ((p, o), v) :: l, q, u => if Nat.beq p q && Nat.beq o u then some v else lookP l q u
def stays (al : Bool) (np0 p o p' o' : Nat) : Bool := if Nat.beq p 0 then Nat.ble np0 p' || !Nat.beq o' o || (!al && !Nat.beq p' 0) else !(Nat.beq p' p && Nat.beq o' o)
def keepF (al : Bool) (np0 p o : Nat) : MemF → MemF
  | [] => []
  | ((p', o'), i) :: l => if stays al np0 p o p' o' then ((p', o'), i) :: keepF al np0 p o l else keepF al np0 p o l
theorem lookP_keepF {al : Bool} {np0 p o : Nat} : ∀ {l : MemF} {p' o' i : Nat}, lookP (keepF al np0 p o l) p' o' = some i → stays al np0 p o p' o' = true ∧ lookP l p' o' = some i
  | [], p', o', i, h => by simp [keepF, lookP] at h
  | ((q, u), j) :: l, p', o', i, h => by
    simp only [keepF] at h
    split at h
    · rename_i hk
      simp only [lookP] at h ⊢
      split at h
      · rename_i he
        rw [if_pos he]
        simp only [Bool.and_eq_true] at he
        have e1 := Nat.eq_of_beq_eq_true he.1
        have e2 := Nat.eq_of_beq_eq_true he.2
        subst e1 e2
        exact ⟨hk, h⟩
      · rename_i he
        rw [if_neg he]
        exact lookP_keepF h
    · rename_i hk
      obtain ⟨h1, h2⟩ := lookP_keepF h
      refine ⟨h1, ?_⟩
      simp only [lookP]
      split
      · rename_i he
        exfalso
        simp only [Bool.and_eq_true] at he
        have e1 := Nat.eq_of_beq_eq_true he.1
        have e2 := Nat.eq_of_beq_eq_true he.2
        subst e1 e2
        exact hk h1
      · exact h2

def opF (st : FSt) : Operand → Option FV
  | .tmp t => lookL st.env t
  | .const (.int k z) => some (.int k z)
  | .const (.pointer none) => some .nil
  | _ => none

def pureF (D : FD) (st : FSt) (o : Oper) : Option FV :=
  match o.op with
  | .move x => opF st x
  | .assign x => opF st x
  | .nilCheck x => match opF st x with
    | some (.ptr p q) => some (.ptr p q)
    | _ => none
  | .fieldAddr t x k => match opF st x, D.fld t k with
    | some (.ptr p q), some off => some (.ptr p (q + off))
    | _, _ => none
  | _ => none

def canW (np0 olen : Nat) (st : FSt) (p o : Nat) : Bool :=
  Nat.beq (o % 4) 0 && (if Nat.beq p 0 then Nat.ble (o + 4) olen else Nat.ble np0 p && (match lookL st.lens p with
    | some len => Nat.ble (o + 4) len
    | none => false))

/-- A new name laid at a place. -/
def layN (nin np0 olen : Nat) (st : FSt) (p o : Nat) (e : FEx) (d : Nat) (v : FV) : Option FSt :=
  if canW np0 olen st p o && Nat.blt d st.sz then some { st with env := (d, v) :: st.env, defs := e :: st.defs, mem := ((p, o), nin + st.defs.length) :: keepF st.al np0 p o st.mem } else none
/-- An old one. -/
def layO (np0 olen : Nat) (st : FSt) (p o i : Nat) (d : Nat) (v : FV) : Option FSt :=
  if canW np0 olen st p o && Nat.blt d st.sz then some { st with env := (d, v) :: st.env, mem := ((p, o), i) :: keepF st.al np0 p o st.mem } else none
/-- A new block of so many elements. -/
def newB (nin : Nat) (st : FSt) (len : Nat) (e : FEx) (d : Nat) : Option FSt :=
  if Nat.blt d st.sz then some { st with np := st.np + 1, env := (d, .ptr st.np 0) :: st.env, defs := e :: st.defs, mem := (if Nat.beq len 12 then [((st.np, 0), nin + st.defs.length), ((st.np, 4), nin + st.defs.length), ((st.np, 8), nin + st.defs.length)] else [((st.np, 0), nin + st.defs.length)]) ++ st.mem, lens := (st.np, len) :: st.lens } else none

def callF (D : FD) (nin np0 olen : Nat) (st : FSt) (d : Nat) : FK → List (Option FV) → Option FSt
  | .mul, [some (.ptr p o), some (.ptr p1 o1), some (.ptr p2 o2)] => match lookP st.mem p1 o1, lookP st.mem p2 o2 with
    | some i, some j => layN nin np0 olen st p o (.mul i j) d (.ptr p o)
    | _, _ => none
  | .add, [some (.ptr p o), some (.ptr p1 o1), some (.ptr p2 o2)] => match lookP st.mem p1 o1, lookP st.mem p2 o2 with
    | some i, some j => layN nin np0 olen st p o (.add i j) d (.ptr p o)
    | _, _ => none
  | .sub, [some (.ptr p o), some (.ptr p1 o1), some (.ptr p2 o2)] => match lookP st.mem p1 o1, lookP st.mem p2 o2 with
    | some i, some j => layN nin np0 olen st p o (.sub i j) d (.ptr p o)
    | _, _ => none
  | .sq, [some (.ptr p o), some (.ptr p1 o1)] => match lookP st.mem p1 o1 with
    | some i => layN nin np0 olen st p o (.mul i i) d (.ptr p o)
    | _ => none
  | .set, [some (.ptr p o), some (.ptr p1 o1)] => match lookP st.mem p1 o1 with
    | some i => layO np0 olen st p o i d (.ptr p o)
    | _ => none
  | .one, [some (.ptr p o)] => layN nin np0 olen st p o .one d (.ptr p o)
  | .sel, [some (.ptr p o), some (.ptr p1 o1), some (.ptr p2 o2), some (.int k z)] => match lookP st.mem p1 o1, lookP st.mem p2 o2 with
    | some i, some j => if decide (k = D.ik) then (if decide (z = 1) then layO np0 olen st p o i d (.ptr p o) else if decide (z = 0) then layO np0 olen st p o j d (.ptr p o) else none) else none
    | _, _ => none
  | .b, [] => newB nin st 4 .cb d
  | .sqn, [some (.ptr p o), some (.ptr p1 o1), some (.int k z)] => match lookP st.mem p1 o1 with
    | some i => if decide (k = D.ik) && decide (1 ≤ z) && decide (z < 1000) then layN nin np0 olen st p o (.sqn i z.toNat) d .unit else none
    | _ => none
  | _, _ => none

def stepF (D : FD) (nin np0 olen : Nat) (st : FSt) (o : Oper) : Option FSt :=
  match o.guard, o.dst with
  | none, some d => match pureF D st o with
    | some v => if Nat.blt d st.sz then some { st with env := (d, v) :: st.env } else none
    | none => match o.op with
      | .alloc t => match D.alc t with
        | some len => if Nat.beq len 4 || Nat.beq len 12 then newB nin st len .zero d else none
        | none => none
      | .call c => match c.callee with
        | .value (.func f) => match D.kind f with
          | some k => callF D nin np0 olen st d k (c.args.toList.map (opF st))
          | none => none
        | _ => none
      | _ => none
  | _, _ => none

/-- What the program must say of these numbers. -/
structure EngF (P : Program) (D : FD) : Prop where
  fol : P.follows .mixedOrders = true
  enter : ∀ f k, D.kind f = some k → ∀ args w, (callFunc f args).run P w = .ok (.enter f args) w
  hfld : ∀ t k off, D.fld t k = some off → ∀ (b o : Nat) (w : World), (Instr.fieldAt t (.pointer (some ⟨b, o, none⟩)) k).run P w = .ok (.pointer (some ⟨b, o + off, none⟩)) w
  halc : ∀ t len, D.alc t = some len → ∀ w : World, (Instr.alloc t true (.tuple #[])).run P w = .ok (.pointer (some ⟨w.heap.size, 0, none⟩)) (w.alloc (.cells (List.replicate len (Value.int .u64 0)).toArray t))
  hmul : ∀ f, D.kind f = some .mul → ∀ (b o b1 o1 b2 o2 : Nat) (x y : Fp) (w : World), b < w.heap.size → b1 < w.heap.size → b2 < w.heap.size → Free w b o 4 → Elt w b1 o1 x → Elt w b2 o2 y →
    Calls P f #[.pointer (some ⟨b, o, none⟩), .pointer (some ⟨b1, o1, none⟩), .pointer (some ⟨b2, o2, none⟩)] w fun e w' => e = .returned (.pointer (some ⟨b, o, none⟩)) ∧ Turned b o 4 w w' ∧ Elt w' b o (x * y)
  hadd : ∀ f, D.kind f = some .add → ∀ (b o b1 o1 b2 o2 : Nat) (x y : Fp) (w : World), b < w.heap.size → b1 < w.heap.size → b2 < w.heap.size → Free w b o 4 → Elt w b1 o1 x → Elt w b2 o2 y →
    Calls P f #[.pointer (some ⟨b, o, none⟩), .pointer (some ⟨b1, o1, none⟩), .pointer (some ⟨b2, o2, none⟩)] w fun e w' => e = .returned (.pointer (some ⟨b, o, none⟩)) ∧ Turned b o 4 w w' ∧ Elt w' b o (x + y)
  hsub : ∀ f, D.kind f = some .sub → ∀ (b o b1 o1 b2 o2 : Nat) (x y : Fp) (w : World), b < w.heap.size → b1 < w.heap.size → b2 < w.heap.size → Free w b o 4 → Elt w b1 o1 x → Elt w b2 o2 y →
    Calls P f #[.pointer (some ⟨b, o, none⟩), .pointer (some ⟨b1, o1, none⟩), .pointer (some ⟨b2, o2, none⟩)] w fun e w' => e = .returned (.pointer (some ⟨b, o, none⟩)) ∧ Turned b o 4 w w' ∧ Elt w' b o (x - y)
  hsq : ∀ f, D.kind f = some .sq → ∀ (b o b1 o1 : Nat) (x : Fp) (w : World), b < w.heap.size → b1 < w.heap.size → Free w b o 4 → Elt w b1 o1 x →
    Calls P f #[.pointer (some ⟨b, o, none⟩), .pointer (some ⟨b1, o1, none⟩)] w fun e w' => e = .returned (.pointer (some ⟨b, o, none⟩)) ∧ Turned b o 4 w w' ∧ Elt w' b o (x * x)
  hset : ∀ f, D.kind f = some .set → ∀ (b o b1 o1 : Nat) (x : Fp) (w : World), b < w.heap.size → b1 < w.heap.size → Free w b o 4 → Elt w b1 o1 x →
    Calls P f #[.pointer (some ⟨b, o, none⟩), .pointer (some ⟨b1, o1, none⟩)] w fun e w' => e = .returned (.pointer (some ⟨b, o, none⟩)) ∧ Turned b o 4 w w' ∧ Elt w' b o x
  hone : ∀ f, D.kind f = some .one → ∀ (b o : Nat) (w : World), b < w.heap.size → Free w b o 4 →
    Calls P f #[.pointer (some ⟨b, o, none⟩)] w fun e w' => e = .returned (.pointer (some ⟨b, o, none⟩)) ∧ Turned b o 4 w w' ∧ Elt w' b o 1
  hsel : ∀ f, D.kind f = some .sel → ∀ (b o b1 o1 b2 o2 : Nat) (x y : Fp) (z : Int) (w : World), (z = 0 ∨ z = 1) → b < w.heap.size → b1 < w.heap.size → b2 < w.heap.size → Free w b o 4 → Elt w b1 o1 x → Elt w b2 o2 y →
    Calls P f #[.pointer (some ⟨b, o, none⟩), .pointer (some ⟨b1, o1, none⟩), .pointer (some ⟨b2, o2, none⟩), .int D.ik z] w fun e w' => e = .returned (.pointer (some ⟨b, o, none⟩)) ∧ Turned b o 4 w w' ∧ Elt w' b o (if z = 1 then x else y)
  hB : ∀ f, D.kind f = some .b → ∀ w : World, Calls P f #[] w fun e w' => ∃ b, e = .returned (.pointer (some ⟨b, 0, none⟩)) ∧ w.heap.size ≤ b ∧ b < w'.heap.size ∧ Ext w w' ∧ Free w' b 0 4 ∧ Elt w' b 0 cB
  hsqn : ∀ f, D.kind f = some .sqn → ∀ (b o b1 o1 : Nat) (x : Fp) (z : Int) (w : World), 1 ≤ z → z < 1000 → b < w.heap.size → b1 < w.heap.size → Free w b o 4 → Elt w b1 o1 x →
    Calls P f #[.pointer (some ⟨b, o, none⟩), .pointer (some ⟨b1, o1, none⟩), .int D.ik z] w fun e w' => e = .returned (.tuple #[]) ∧ Turned b o 4 w w' ∧ Elt w' b o (fpow x (2 ^ z.toNat))

/-- What the engine says of the world. -/
structure FR (β γ : Nat → Nat) (ins : Nat → Fp) (nin np0 L olen : Nat) (w0 : World) (st : FSt) (a : Act) (w : World) : Prop where
  size : a.tmps.size = st.sz
  env : ∀ t v, lookL st.env t = some v → a.tmps[t]? = some (v.val β γ) ∧ v.lt st.np
  dfr : a.defers = []
  mem : ∀ p o i, lookP st.mem p o = some i → i < nin + st.defs.length ∧ p < st.np ∧ o % 4 = 0 ∧ (p < np0 → o + 4 ≤ L) ∧ Elt w (β p) (γ p + o) (denF ins nin st.defs i)
  np : np0 ≤ st.np
  pos : 0 < np0
  par : ∀ p, p < np0 → β p < w0.heap.size
  sep : ∀ p, 0 < p → p < np0 → β p ≠ β 0 ∨ (st.al = true ∧ γ p = γ 0) ∨ γ p + L ≤ γ 0 ∨ γ 0 + L ≤ γ p
  loc : ∀ p, np0 ≤ p → p < st.np → w0.heap.size ≤ β p ∧ β p < w.heap.size ∧ γ p = 0 ∧ ∀ len, lookL st.lens p = some len → Free w (β p) 0 len
  lns : ∀ p len, lookL st.lens p = some len → p < st.np
  inj : ∀ p q, np0 ≤ p → p < st.np → np0 ≤ q → q < st.np → β p = β q → p = q
  out : Free w (β 0) (γ 0) olen
  oL : olen ≤ L
  trn : Turned (β 0) (γ 0) olen w0 w

section
variable {P : Program} {D : FD} {β γ : Nat → Nat} {ins : Nat → Fp} {nin np0 L olen : Nat} {w0 : World} {st : FSt} {a : Act} {w : World} {o : Oper}

theorem FR.blk (R : FR β γ ins nin np0 L olen w0 st a w) {p : Nat} (hp : p < st.np) : β p < w.heap.size := by
  by_cases h : p < np0
  · exact Nat.lt_of_lt_of_le (R.par p h) R.trn.size
  · exact (R.loc p (by omega) hp).2.1

theorem opF_sound (R : FR β γ ins nin np0 L olen w0 st a w) {x : Operand} {v : FV} (h : opF st x = some v) : a.eval x = v.val β γ ∧ v.lt st.np := by
  cases x with
  | tmp t =>
    obtain ⟨h1, h2⟩ := R.env t v h
    refine ⟨?_, h2⟩
    show a.tmps.getD t undef = _
    rw [Array.getD_eq_getD_getElem?, h1]
    rfl
  | const c =>
    cases c <;> simp only [opF] at h <;> first | contradiction | skip
    case int k z =>
      obtain rfl := Option.some.inj h
      exact ⟨rfl, trivial⟩
    case pointer q =>
      cases q <;> simp only [opF] at h
      · obtain rfl := Option.some.inj h
        exact ⟨rfl, trivial⟩
      · contradiction
  | global g => simp only [opF] at h; contradiction
  | func f => simp only [opF] at h; contradiction

/-- A slot is set. -/
theorem FR.put (R : FR β γ ins nin np0 L olen w0 st a w) {d : Nat} {v : FV} (hd : d < st.sz) (hv : v.lt st.np) :
    FR β γ ins nin np0 L olen w0 { st with env := (d, v) :: st.env } (a.put (some d) (v.val β γ)) w := by
  have hsz : d < a.tmps.size := by rw [R.size]; exact hd
  refine ⟨by simp [Act.put, R.size], ?_, R.dfr, R.mem, R.np, R.pos, R.par, R.sep, R.loc, R.lns, R.inj, R.out, R.oL, R.trn⟩
  intro t v' ht
  simp only [lookL] at ht
  split at ht
  · rename_i he
    obtain rfl : d = t := Nat.eq_of_beq_eq_true he
    obtain rfl := Option.some.inj ht
    exact ⟨by simp [Act.put, hsz], hv⟩
  · rename_i he
    have hne : d ≠ t := fun e => he (by rw [e]; exact Nat.beq_refl t)
    obtain ⟨k1, k2⟩ := R.env t v' ht
    refine ⟨?_, k2⟩
    simp only [Act.put]
    rw [Array.getElem?_setIfInBounds_ne hne]
    exact k1

theorem FR.drewN (R : FR β γ ins nin np0 L olen w0 st a w) (n : Nat) : FR β γ ins nin np0 L olen w0 st a (w.drewN n) :=
  ⟨R.size, R.env, R.dfr, R.mem, R.np, R.pos, R.par, R.sep, R.loc, R.lns, R.inj, R.out, R.oL, R.trn.drewN n⟩

/-- An element is laid at a place. -/
theorem FR.lay (R : FR β γ ins nin np0 L olen w0 st a w) {p q i : Nat} {ds : List FEx} {w' : World} (hp : p < st.np) (hc : canW np0 olen st p q = true) (hT : Turned (β p) (γ p + q) 4 w w')
    (hl : st.defs.length ≤ ds.length) (hds : ∀ j, j < nin + st.defs.length → denF ins nin ds j = denF ins nin st.defs j) (hi : i < nin + ds.length) (hE : Elt w' (β p) (γ p + q) (denF ins nin ds i)) :
    FR β γ ins nin np0 L olen w0 { st with defs := ds, mem := ((p, q), i) :: keepF st.al np0 p q st.mem } a w' := by
  simp only [canW, Bool.and_eq_true] at hc
  obtain ⟨hq4, hc⟩ := hc
  have hq4 : q % 4 = 0 := Nat.eq_of_beq_eq_true hq4
  have hpw := R.blk hp
  have hb0 : β 0 < w0.heap.size := R.par 0 R.pos
  have hb0w : β 0 < w.heap.size := Nat.lt_of_lt_of_le hb0 R.trn.size
  -- either the out parameter, or a block of the call's own
  have hkind : (p = 0 ∧ q + 4 ≤ olen) ∨ (np0 ≤ p ∧ ∃ len, lookL st.lens p = some len ∧ q + 4 ≤ len) := by
    split at hc
    · rename_i h0
      exact .inl ⟨Nat.eq_of_beq_eq_true h0, Nat.le_of_ble_eq_true hc⟩
    · simp only [Bool.and_eq_true] at hc
      refine .inr ⟨Nat.le_of_ble_eq_true hc.1, ?_⟩
      have h2 := hc.2
      split at h2
      · rename_i len hlen
        exact ⟨len, hlen, Nat.le_of_ble_eq_true h2⟩
      · cases h2
  refine ⟨R.size, R.env, R.dfr, ?_, R.np, R.pos, R.par, R.sep, ?_, R.lns, R.inj, ?_, R.oL, ?_⟩
  · intro p' o' j h
    simp only [lookP] at h
    split at h
    · rename_i he
      simp only [Bool.and_eq_true] at he
      have e1 := Nat.eq_of_beq_eq_true he.1
      have e2 := Nat.eq_of_beq_eq_true he.2
      subst e1 e2
      obtain rfl := Option.some.inj h
      refine ⟨hi, hp, hq4, fun hlt => ?_, hE⟩
      rcases hkind with ⟨rfl, h1⟩ | ⟨h1, _⟩
      · exact Nat.le_trans h1 R.oL
      · omega
    · obtain ⟨hs, hk⟩ := lookP_keepF h
      obtain ⟨k1, k2, k3, k4, k5⟩ := R.mem p' o' j hk
      refine ⟨Nat.lt_of_lt_of_le k1 (Nat.add_le_add_left hl _), k2, k3, k4, ?_⟩
      rw [hds j k1]
      refine k5.far hT (R.blk k2) ?_
      unfold stays at hs
      rcases hkind with ⟨rfl, h1⟩ | ⟨h1, _⟩
      · rw [if_pos (by rfl)] at hs
        simp only [Bool.or_eq_true, Bool.not_eq_true', Bool.and_eq_true] at hs
        rcases hs with (hs | hs) | hs
        · have h2 := Nat.le_of_ble_eq_true hs
          left
          have := (R.loc p' h2 k2).1
          omega
        · have hne : o' ≠ q := fun e => by rw [e, Nat.beq_refl] at hs; cases hs
          by_cases hp0 : p' = 0
          · subst hp0
            right
            omega
          · by_cases hpl : p' < np0
            · have h4 := k4 hpl
              have hoL := R.oL
              rcases R.sep p' (by omega) hpl with h5 | h5 | h5 | h5
              · exact .inl h5
              · right; rw [h5.2]; omega
              · right; omega
              · right; omega
            · left
              have := (R.loc p' (by omega) k2).1
              omega
        · have hp0 : p' ≠ 0 := fun e => by rw [e, Nat.beq_refl] at hs; cases hs.2
          by_cases hpl : p' < np0
          · have h4 := k4 hpl
            have hoL := R.oL
            rcases R.sep p' (by omega) hpl with h5 | h5 | h5 | h5
            · exact .inl h5
            · rw [hs.1] at h5; cases h5.1
            · right; omega
            · right; omega
          · left
            have := (R.loc p' (by omega) k2).1
            omega
      · have hpos := R.pos
        rw [if_neg (fun e => by have := Nat.eq_of_beq_eq_true e; omega)] at hs
        by_cases hpp : p' = p
        · subst hpp
          have hne : o' ≠ q := fun e => by rw [e, Nat.beq_refl, Nat.beq_refl] at hs; cases hs
          right
          omega
        · left
          intro e
          by_cases hpl : p' < np0
          · have h5 := R.par p' hpl
            have := (R.loc p h1 hp).1
            omega
          · exact hpp (R.inj p' p (by omega) k2 h1 hp e)
  · intro p' h1 h2
    obtain ⟨k1, k2, k3, k4⟩ := R.loc p' h1 h2
    exact ⟨k1, Nat.lt_of_lt_of_le k2 hT.size, k3, fun len hlen => (k4 len hlen).turned hT hE k2⟩
  · exact R.out.turned hT hE hb0w
  · rcases hkind with ⟨rfl, h1⟩ | ⟨h1, _⟩
    · exact R.trn.trans (hT.widen (by omega) (by omega))
    · exact R.trn.new hT (R.loc p h1 hp).1 hb0

theorem FR.layN (R : FR β γ ins nin np0 L olen w0 st a w) {p q d : Nat} {e : FEx} {v : FV} {st' : FSt} {w' : World} (h : layN nin np0 olen st p q e d v = some st') (hp : p < st.np) (hv : v.lt st.np)
    (hT : Turned (β p) (γ p + q) 4 w w') (hE : Elt w' (β p) (γ p + q) (evF (denF ins nin st.defs) e)) : FR β γ ins nin np0 L olen w0 st' (a.put (some d) (v.val β γ)) w' := by
  unfold Go.Proofs.Ytblhnmahkabmiaa.layN at h
  split at h
  · rename_i hc
    simp only [Bool.and_eq_true] at hc
    obtain rfl := Option.some.inj h
    have h1 := R.lay (ds := e :: st.defs) (i := nin + st.defs.length) hp hc.1 hT (by simp) (fun j hj => denF_lt hj) (by simp) (by rw [denF_last]; exact hE)
    exact h1.put (d := d) (v := v) (by simpa [Nat.blt_eq] using hc.2) hv
  · cases h
theorem FR.layO (R : FR β γ ins nin np0 L olen w0 st a w) {p q d i : Nat} {v : FV} {st' : FSt} {w' : World} (h : layO np0 olen st p q i d v = some st') (hp : p < st.np) (hv : v.lt st.np) (hi : i < nin + st.defs.length)
    (hT : Turned (β p) (γ p + q) 4 w w') (hE : Elt w' (β p) (γ p + q) (denF ins nin st.defs i)) : FR β γ ins nin np0 L olen w0 st' (a.put (some d) (v.val β γ)) w' := by
  unfold Go.Proofs.Ytblhnmahkabmiaa.layO at h
  split at h
  · rename_i hc
    simp only [Bool.and_eq_true] at hc
    obtain rfl := Option.some.inj h
    have h1 := R.lay (ds := st.defs) (i := i) hp hc.1 hT (Nat.le_refl _) (fun j hj => rfl) hi hE
    exact h1.put (d := d) (v := v) (by simpa [Nat.blt_eq] using hc.2) hv
  · cases h

/-- What of the world a step hands on. -/
def FGo (β γ : Nat → Nat) (ins : Nat → Fp) (nin np0 L olen : Nat) (w0 : World) (st' : FSt) (next : Act → World → Prop) : Prop :=
  ∀ β' γ' a' w', (∀ p, p < np0 → β' p = β p ∧ γ' p = γ p) → FR β' γ' ins nin np0 L olen w0 st' a' w' → next a' w'

end
end Go.Proofs.Ytblhnmahkabmiaa
