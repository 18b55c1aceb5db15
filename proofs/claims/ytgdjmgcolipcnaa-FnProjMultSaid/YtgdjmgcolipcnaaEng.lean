/-
  What is proved here: an engine that runs straight-line code on words by name, and that what it says is what the code does. No program in sight.
  Conditions: those of each theorem.
-/
import Derived.Test.YtgdjmgcolipcnaaNumRegMem
import Derived.WalkKit
import Derived.BigQuiet
import Derived.BigRegion
import Derived.Laws.Externs
namespace Go.Proofs.Ytgdjmgcolipcnaa
open Go Go.RowKit
set_option linter.unusedSimpArgs false
set_option linter.unusedVariables false

/-- Where a number comes from: a name, or itself. -/
inductive Src where
  | v (i : Nat)
  | c (n : Int)
/-- What a slot holds. -/
inductive SV where
  | num (k : IntKind) (s : Src)
  | pair (a b : Src)
  | ptr (p o : Nat)
/-- What a name stands for. -/
inductive Ex where
  | mulHi (x y : Src)
  | mulLo (x y : Src)
  | addLo (x y c : Src)
  | addHi (x y c : Src)
  | subLo (x y c : Src)
  | subHi (x y c : Src)
  | bin (op : BinOp) (k : IntKind) (x y : Src)
  | conv (k : IntKind) (x : Src)
  | cmov (b x y : Src)

def den (ρ : Nat → Int) : Src → Int
  | .v i => ρ i
  | .c n => n
def bop (op : BinOp) (k : IntKind) (x y : Int) : Int :=
  match op with
  | .add => k.wrap (x + y)
  | .sub => k.wrap (x - y)
  | .mul => k.wrap (x * y)
  | .shl => k.wrap (x * 2 ^ (min y.toNat k.bits))
  | .shr => x.fdiv (2 ^ (min y.toNat k.bits))
  | op => bits op k x y
def ev (ρ : Nat → Int) : Ex → Int
  | .mulHi x y => den ρ x * den ρ y / 18446744073709551616
  | .mulLo x y => den ρ x * den ρ y % 18446744073709551616
  | .addLo x y c => (den ρ x + den ρ y + den ρ c) % 18446744073709551616
  | .addHi x y c => (den ρ x + den ρ y + den ρ c) / 18446744073709551616
  | .subLo x y c => (den ρ x - den ρ y - den ρ c) % 18446744073709551616
  | .subHi x y c => if den ρ x < den ρ y + den ρ c then 1 else 0
  | .bin op k x y => bop op k (den ρ x) (den ρ y)
  | .conv k x => k.wrap (den ρ x)
  | .cmov b x y => if den ρ b = 0 then den ρ x else den ρ y

/-- Names that stand for 0 or 1. -/
def Ex.isBit : Ex → Bool
  | .addHi _ _ _ => true
  | .subHi _ _ _ => true
  | _ => false

def SV.val (β γ : Nat → Nat) (ρ : Nat → Int) : SV → Value
  | .num k s => .int k (den ρ s)
  | .pair a b => .tuple #[.int .u64 (den ρ a), .int .u64 (den ρ b)]
  | .ptr p o => .pointer (some ⟨β p, γ p + o, none⟩)

def Src.lt (n : Nat) : Src → Prop
  | .v i => i < n
  | .c z => True
def SV.lt (n m : Nat) : SV → Prop
  | .num _ s => s.lt n
  | .pair a b => a.lt n ∧ b.lt n
  | .ptr p _ => p < m

/-- The program's own numbers: of functions, of types. -/
structure EngD where
  fmul : Nat
  fadd : Nat
  fsub : Nat
  fcmov : Nat
  cm : Bool
  arr : Nat → Nat
  word : Nat → Option IntKind

structure St where
  n : Nat
  size : Nat
  np : Nat
  env : List (Nat × SV)
  defs : List Ex
  mem : List ((Nat × Nat) × (IntKind × Src))

def lookE : List (Nat × SV) → Nat → Option SV
  | [], _ => none
  | (t, v) :: l, i => if Nat.beq t i then some v else lookE l i
def lookM : List ((Nat × Nat) × (IntKind × Src)) → Nat → Nat → Option (IntKind × Src)
  | [], _, _ => none
  | ((p, o), v) :: l, q, u => if Nat.beq p q && Nat.beq o u then some v else lookM l q u

def opnd (st : St) : Operand → Option SV
  | .tmp t => lookE st.env t
  | .const (.int k z) => some (.num k (.c z))
  | _ => none

/-- A number within 64 bits: a name is; a number itself is looked at. -/
def srcOk : Src → Bool
  | .v _ => true
  | .c z => decide (0 ≤ z) && decide (z < 18446744073709551616)
/-- A carry: 0, or a name that stands for 0 or 1 (names are counted from m: m names came in). -/
def bitOk (st : St) : Src → Bool
  | .c z => decide (z = 0) || decide (z = 1)
  | .v i => match st.defs[st.n - 1 - i]? with
    | some e => decide (i < st.n) && e.isBit
    | none => false

def binOk : BinOp → Bool
  | .add => true
  | .sub => true
  | .mul => true
  | .and => true
  | .or => true
  | .xor => true
  | .andNot => true
  | _ => false
def kindOk : IntKind → Bool
  | .u64 => true
  | .u8 => true
  | _ => false

/-- One operation that makes a value and turns nothing: the value, and the new names. -/
def pureV (D : EngD) (st : St) (o : Oper) : Option (SV × List Ex) :=
  match o.op with
  | .move x => (opnd st x).map fun v => (v, [])
  | .assign x => (opnd st x).map fun v => (v, [])
  | .nilCheck x => match opnd st x with
    | some (.ptr p q) => some (.ptr p q, [])
    | _ => none
  | .indexAddr t x i => match opnd st x, opnd st i with
    | some (.ptr p q), some (.num _ (.c z)) => if decide (0 ≤ z) && decide (z < (D.arr t : Int)) then some (.ptr p (q + z.toNat), []) else none
    | _, _ => none
  | .load t x => match opnd st x with
    | some (.ptr p q) => match lookM st.mem p q, D.word t with
      | some (k, s), some k' => if decide (k = k') then some (.num k s, []) else none
      | _, _ => none
    | _ => none
  | .extract x i => match opnd st x with
    | some (.pair a b) => if Nat.beq i 0 then some (.num .u64 a, []) else if Nat.beq i 1 then some (.num .u64 b, []) else none
    | _ => none
  | .binOp op _ x y _ => match opnd st x, opnd st y with
    | some (.num k a), some (.num k' b) =>
      if binOk op then (if decide (k = k') && kindOk k then some (.num k (.v st.n), [.bin op k a b]) else none)
      else match op, b with
        | .shl, .c z => if decide (0 ≤ z) && decide (z < 64) && kindOk k then some (.num k (.v st.n), [.bin .shl k a b]) else none
        | .shr, .c z => if decide (0 ≤ z) && decide (z < 64) && decide (k = .u64) && srcOk a then some (.num k (.v st.n), [.bin .shr k a b]) else none
        | _, _ => none
    | _, _ => none
  | .convert s d x => match opnd st x, D.word s, D.word d with
    | some (.num k a), some ks, some kd =>
      if decide (k = .u64) && decide (kd = .u64) && srcOk a then some (.num k a, [])
      else if kindOk kd then some (.num kd (.v st.n), [.conv kd a]) else none
    | _, _, _ => none
  | .call c => match c.callee with
    | .value (.func f) =>
      match c.args.toList.map (opnd st) with
      | [some (.num .u64 a), some (.num .u64 b)] =>
        if Nat.beq f D.fmul && srcOk a && srcOk b then some (.pair (.v st.n) (.v (st.n + 1)), [.mulHi a b, .mulLo a b]) else none
      | [some (.num .u64 a), some (.num .u64 b), some (.num .u64 c)] =>
        if srcOk a && srcOk b && bitOk st c then
          (if Nat.beq f D.fadd then some (.pair (.v st.n) (.v (st.n + 1)), [.addLo a b c, .addHi a b c])
          else if Nat.beq f D.fsub then some (.pair (.v st.n) (.v (st.n + 1)), [.subLo a b c, .subHi a b c]) else none)
        else none
      | _ => none
    | _ => none
  | _ => none

/-- What the program must say of these numbers. -/
structure EngS (P : Program) (D : EngD) : Prop where
  emul : ∀ args w, (callFunc D.fmul args).run P w = .ok (.enter D.fmul args) w
  hmul : ∀ (x y : Int) w, 0 ≤ x → x < 18446744073709551616 → 0 ≤ y → y < 18446744073709551616 →
    Calls P D.fmul #[.int .u64 x, .int .u64 y] w fun e w' => e = .returned (.tuple #[.int .u64 (x * y / 18446744073709551616), .int .u64 (x * y % 18446744073709551616)]) ∧ w' = w
  hadd : ∀ (x y c : Int) w, 0 ≤ x → x < 18446744073709551616 → 0 ≤ y → y < 18446744073709551616 → (c = 0 ∨ c = 1) →
    (callFunc D.fadd #[.int .u64 x, .int .u64 y, .int .u64 c]).run P w = .ok (.value (.tuple #[.int .u64 ((x + y + c) % 18446744073709551616), .int .u64 ((x + y + c) / 18446744073709551616)])) w
  hsub : ∀ (x y c : Int) w, 0 ≤ x → x < 18446744073709551616 → 0 ≤ y → y < 18446744073709551616 → (c = 0 ∨ c = 1) →
    (callFunc D.fsub #[.int .u64 x, .int .u64 y, .int .u64 c]).run P w = .ok (.value (.tuple #[.int .u64 ((x - y - c) % 18446744073709551616), .int .u64 (if x < y + c then 1 else 0)])) w
  harr : ∀ t, 0 < D.arr t → P.underlying t = some (.array (D.arr t) (P.elem t)) ∧ ∀ w, (sizeOf (P.elem t)).run P w = .ok 1 w
  hword : ∀ t k, D.word t = some k → P.underlying t = some (.int k)

def Ex.lt (n : Nat) : Ex → Prop
  | .mulHi x y => x.lt n ∧ y.lt n
  | .mulLo x y => x.lt n ∧ y.lt n
  | .addLo x y c => x.lt n ∧ y.lt n ∧ c.lt n
  | .addHi x y c => x.lt n ∧ y.lt n ∧ c.lt n
  | .subLo x y c => x.lt n ∧ y.lt n ∧ c.lt n
  | .subHi x y c => x.lt n ∧ y.lt n ∧ c.lt n
  | .bin _ _ x y => x.lt n ∧ y.lt n
  | .conv _ x => x.lt n
  | .cmov b x y => b.lt n ∧ x.lt n ∧ y.lt n

/-- The names' numbers, and what the slots hold. -/
structure Rel (β γ : Nat → Nat) (ρ : Nat → Int) (st : St) (a : Act) : Prop where
  size : a.tmps.size = st.size
  env : ∀ t sv, lookE st.env t = some sv → a.tmps[t]? = some (sv.val β γ ρ) ∧ sv.lt st.n st.np
  bound : ∀ i, i < st.n → 0 ≤ ρ i ∧ ρ i < 18446744073709551616
  defs : ∀ i e, i < st.n → st.defs[st.n - 1 - i]? = some e → ρ i = ev ρ e ∧ e.lt st.n ∧ (e.isBit = true → ρ i = 0 ∨ ρ i = 1)
  lts : ∀ p o k s, lookM st.mem p o = some (k, s) → s.lt st.n ∧ p < st.np
  dfr : a.defers = []

def MemOk (β γ : Nat → Nat) (ρ : Nat → Int) (st : St) (w : World) : Prop :=
  ∀ p o k s, lookM st.mem p o = some (k, s) → w.cell? ⟨β p, γ p + o, none⟩ = some (.int k (den ρ s))

/-- Two readings of the names that agree below n. -/
def Agree (n : Nat) (ρ ρ' : Nat → Int) : Prop := ∀ i, i < n → ρ' i = ρ i
theorem Agree.den {n : Nat} {ρ ρ' : Nat → Int} (h : Agree n ρ ρ') {s : Src} (hs : s.lt n) : den ρ' s = den ρ s := by
  cases s with
  | v i => exact h i hs
  | c z => rfl
theorem Agree.val {n m : Nat} {ρ ρ' : Nat → Int} (h : Agree n ρ ρ') {β γ : Nat → Nat} {s : SV} (hs : s.lt n m) : s.val β γ ρ' = s.val β γ ρ := by
  cases s with
  | num k s => simp only [SV.val, h.den hs]
  | pair a b => simp only [SV.val, h.den hs.1, h.den hs.2]
  | ptr p o => rfl
theorem Agree.ev {n : Nat} {ρ ρ' : Nat → Int} (h : Agree n ρ ρ') {e : Ex} (he : e.lt n) : ev ρ' e = ev ρ e := by
  cases e <;> simp only [Ex.lt] at he <;> simp only [Go.Proofs.Ytgdjmgcolipcnaa.ev]
  case mulHi => rw [h.den he.1, h.den he.2]
  case mulLo => rw [h.den he.1, h.den he.2]
  case addLo => rw [h.den he.1, h.den he.2.1, h.den he.2.2]
  case addHi => rw [h.den he.1, h.den he.2.1, h.den he.2.2]
  case subLo => rw [h.den he.1, h.den he.2.1, h.den he.2.2]
  case subHi => rw [h.den he.1, h.den he.2.1, h.den he.2.2]
  case bin => rw [h.den he.1, h.den he.2]
  case conv => rw [h.den he]
  case cmov => rw [h.den he.1, h.den he.2.1, h.den he.2.2]
theorem Src.lt_mono {n n' : Nat} (h : n ≤ n') {s : Src} (hs : s.lt n) : s.lt n' := by
  cases s with
  | v i => exact Nat.lt_of_lt_of_le hs h
  | c z => trivial
theorem SV.lt_mono {n n' m m' : Nat} (h : n ≤ n') (h' : m ≤ m') {s : SV} (hs : s.lt n m) : s.lt n' m' := by
  cases s with
  | num k s => exact Src.lt_mono h hs
  | pair a b => exact ⟨Src.lt_mono h hs.1, Src.lt_mono h hs.2⟩
  | ptr p o => exact Nat.lt_of_lt_of_le hs h'
theorem Ex.lt_mono {n n' : Nat} (h : n ≤ n') {e : Ex} (he : e.lt n) : e.lt n' := by
  cases e <;> simp only [Ex.lt] at *
  case mulHi => exact ⟨Src.lt_mono h he.1, Src.lt_mono h he.2⟩
  case mulLo => exact ⟨Src.lt_mono h he.1, Src.lt_mono h he.2⟩
  case addLo => exact ⟨Src.lt_mono h he.1, Src.lt_mono h he.2.1, Src.lt_mono h he.2.2⟩
  case addHi => exact ⟨Src.lt_mono h he.1, Src.lt_mono h he.2.1, Src.lt_mono h he.2.2⟩
  case subLo => exact ⟨Src.lt_mono h he.1, Src.lt_mono h he.2.1, Src.lt_mono h he.2.2⟩
  case subHi => exact ⟨Src.lt_mono h he.1, Src.lt_mono h he.2.1, Src.lt_mono h he.2.2⟩
  case bin => exact ⟨Src.lt_mono h he.1, Src.lt_mono h he.2⟩
  case conv => exact Src.lt_mono h he
  case cmov => exact ⟨Src.lt_mono h he.1, Src.lt_mono h he.2.1, Src.lt_mono h he.2.2⟩

section
variable {P : Program} {D : EngD} {β γ : Nat → Nat} {ρ : Nat → Int} {st : St} {a : Act} {o : Oper}

theorem opnd_sound (R : Rel β γ ρ st a) {x : Operand} {sv : SV} (h : opnd st x = some sv) : a.eval x = sv.val β γ ρ ∧ sv.lt st.n st.np := by
  cases x with
  | tmp t =>
    obtain ⟨h1, h2⟩ := R.env t sv h
    refine ⟨?_, h2⟩
    show a.tmps.getD t undef = _
    rw [Array.getD_eq_getD_getElem?, h1]
    rfl
  | const v =>
    cases v <;> simp only [opnd] at h <;> first | contradiction | skip
    case int k z =>
      obtain rfl := Option.some.inj h
      exact ⟨rfl, trivial⟩
  | global g => simp only [opnd] at h; contradiction
  | func f => simp only [opnd] at h; contradiction

theorem srcOk_bd (R : Rel β γ ρ st a) {s : Src} (hs : srcOk s = true) (hl : s.lt st.n) : 0 ≤ den ρ s ∧ den ρ s < 18446744073709551616 := by
  cases s with
  | v i => exact R.bound i hl
  | c z => simpa [srcOk, den] using hs

theorem bitOk_bd (R : Rel β γ ρ st a) {s : Src} (hs : bitOk st s = true) : den ρ s = 0 ∨ den ρ s = 1 := by
  cases s with
  | c z => simpa [bitOk, den] using hs
  | v i =>
    simp only [bitOk] at hs
    split at hs
    · rename_i e he
      simp only [Bool.and_eq_true, decide_eq_true_eq] at hs
      exact (R.defs i e hs.1 he).2.2 hs.2
    · cases hs

theorem quietAt_of_run {C : World → Prop} {v : Value} {w : World} (h : (execOp a.eval o).run P w = .ok (.value v) w) : o.quietAt P a C w v := by
  unfold Oper.quietAt; rw [h]; exact ⟨rfl, rfl⟩

theorem run_extract2 (v0 v1 : Value) (w : World) : (Instr.extract (.tuple #[v0, v1]) 0).run P w = .ok v0 w ∧ (Instr.extract (.tuple #[v0, v1]) 1).run P w = .ok v1 w := by
  constructor <;> simp [Instr.extract]

theorem run_binOp_ok (op : BinOp) (hop : binOk op = true) (t : TypeId) (k : IntKind) (x y : Int) (w : World) : (binOp op t (.int k x) (.int k y)).run P w = .ok (.int k (bop op k x y)) w := by
  cases op <;> simp only [binOk] at hop <;> first | (exact absurd hop (by decide)) | skip
  all_goals first | (simp [go_sem, bop]; done) | (simp [binOp, Op.intArith, bop]; done)
theorem run_shl (t : TypeId) (k k' : IntKind) (x y : Int) (hy : 0 ≤ y) (w : World) : (binOp .shl t (.int k x) (.int k' y)).run P w = .ok (.int k (bop .shl k x y)) w := by
  simp only [binOp, Op.shift, bop]
  rw [if_neg (by omega)]
  rfl
theorem run_shr (t : TypeId) (k k' : IntKind) (x y : Int) (hy : 0 ≤ y) (w : World) : (binOp .shr t (.int k x) (.int k' y)).run P w = .ok (.int k (bop .shr k x y)) w := by
  simp only [binOp, Op.shift, bop]
  rw [if_neg (by omega)]
  rfl
theorem run_load1 (S : EngS P D) {t : TypeId} {k : IntKind} (ht : D.word t = some k) (ad : Addr) (v : Value) (w : World) (hc : w.cell? ad = some v) : (Instr.loadAt t (.pointer (some ad))).run P w = .ok v w := by
  have hu := S.hword t k ht
  simp [Instr.loadAt, Instr.sureAddr, loadVar, isAgg, run_underlying hu, hc, go_sem]
theorem run_index1 (S : EngS P D) {t : TypeId} (ht : 0 < D.arr t) (ad : Addr) (k : IntKind) (z : Int) (h0 : 0 ≤ z) (h1 : z < (D.arr t : Int)) (w : World) : (Instr.indexAt t (.pointer (some ad)) (.int k z)).run P w = .ok (.pointer (some (ad.add z.toNat))) w := by
  obtain ⟨hu, hs⟩ := S.harr t ht
  simp [Instr.indexAt, run_underlying hu, Instr.sureAddr, asIntOf, h0, h1, hs]

def upd (ρ : Nat → Int) (n : Nat) (x : Int) : Nat → Int := fun i => if i = n then x else ρ i
theorem upd_at (ρ : Nat → Int) (n : Nat) (x : Int) : upd ρ n x n = x := if_pos rfl
theorem upd_off (ρ : Nat → Int) (n i : Nat) (x : Int) (h : i ≠ n) : upd ρ n x i = ρ i := if_neg h
theorem upd_agree (ρ : Nat → Int) (n : Nat) (x : Int) : Agree n ρ (upd ρ n x) := fun i hi => upd_off ρ n i x (Nat.ne_of_lt hi)

/-- What a step owes: the new names' numbers, and the value that the operation yields. -/
def Owes (P : Program) (β γ : Nat → Nat) (ρ : Nat → Int) (st : St) (a : Act) (o : Oper) (sv : SV) (es : List Ex) : Prop :=
  ∃ ρ', Agree st.n ρ ρ' ∧ (∀ j e, es[j]? = some e → ρ' (st.n + j) = ev ρ' e ∧ e.lt st.n ∧ (e.isBit = true → ρ' (st.n + j) = 0 ∨ ρ' (st.n + j) = 1)) ∧
    (∀ j, j < es.length → 0 ≤ ρ' (st.n + j) ∧ ρ' (st.n + j) < 18446744073709551616) ∧ sv.lt (st.n + es.length) st.np ∧
    ∀ w, MemOk β γ ρ st w → ∀ C : World → Prop, C w → o.quietAt P a C w (sv.val β γ ρ')

theorem Owes.none {sv : SV} (hl : sv.lt st.n st.np) (h : ∀ w, MemOk β γ ρ st w → (execOp a.eval o).run P w = .ok (.value (sv.val β γ ρ)) w) : Owes P β γ ρ st a o sv [] :=
  ⟨ρ, fun _ _ => rfl, fun j e he => by simp at he, fun j hj => by simp at hj, by simpa using hl, fun w hw C _ => quietAt_of_run (h w hw)⟩

theorem Owes.one {k : IntKind} {e : Ex} (hl : e.lt st.n) (hnb : e.isBit = false) (hb : 0 ≤ ev ρ e ∧ ev ρ e < 18446744073709551616)
    (h : ∀ w, MemOk β γ ρ st w → (execOp a.eval o).run P w = .ok (.value (.int k (ev ρ e))) w) : Owes P β γ ρ st a o (.num k (.v st.n)) [e] := by
  have ha := upd_agree ρ st.n (ev ρ e)
  refine ⟨upd ρ st.n (ev ρ e), ha, ?_, ?_, ?_, ?_⟩
  · intro j e' he
    cases j with
    | zero =>
      obtain rfl : e = e' := by simpa using he
      refine ⟨?_, hl, fun h => by rw [hnb] at h; cases h⟩
      rw [ha.ev hl]
      exact upd_at ..
    | succ j => simp at he
  · intro j hj
    obtain rfl : j = 0 := by simpa using hj
    show 0 ≤ upd ρ st.n (ev ρ e) st.n ∧ upd ρ st.n (ev ρ e) st.n < _
    rw [upd_at]
    exact hb
  · exact Nat.lt_succ_self _
  · intro w hw C _
    have := h w hw
    refine quietAt_of_run ?_
    rw [this]
    simp only [SV.val, den, upd_at]

theorem Owes.two {e1 e2 : Ex} (hl1 : e1.lt st.n) (hl2 : e2.lt st.n) (hb1 : 0 ≤ ev ρ e1 ∧ ev ρ e1 < 18446744073709551616) (hb2 : 0 ≤ ev ρ e2 ∧ ev ρ e2 < 18446744073709551616)
    (hn1 : e1.isBit = false) (hn2 : e2.isBit = true → ev ρ e2 = 0 ∨ ev ρ e2 = 1)
    (h : ∀ w, MemOk β γ ρ st w → ∀ C : World → Prop, C w → o.quietAt P a C w (.tuple #[.int .u64 (ev ρ e1), .int .u64 (ev ρ e2)])) : Owes P β γ ρ st a o (.pair (.v st.n) (.v (st.n + 1))) [e1, e2] := by
  have a1 := upd_agree ρ st.n (ev ρ e1)
  have ha : Agree st.n ρ (upd (upd ρ st.n (ev ρ e1)) (st.n + 1) (ev ρ e2)) := fun i hi => by
    rw [upd_off _ _ _ _ (by omega)]; exact a1 i hi
  have v0 : upd (upd ρ st.n (ev ρ e1)) (st.n + 1) (ev ρ e2) st.n = ev ρ e1 := by rw [upd_off _ _ _ _ (by omega), upd_at]
  have v1 : upd (upd ρ st.n (ev ρ e1)) (st.n + 1) (ev ρ e2) (st.n + 1) = ev ρ e2 := upd_at ..
  refine ⟨_, ha, ?_, ?_, ?_, ?_⟩
  · intro j e' he
    match j, he with
    | 0, he =>
      obtain rfl : e1 = e' := by simpa using he
      refine ⟨?_, hl1, fun h => by rw [hn1] at h; cases h⟩
      rw [ha.ev hl1]
      exact v0
    | 1, he =>
      obtain rfl : e2 = e' := by simpa using he
      refine ⟨?_, hl2, fun h => by rw [v1]; exact hn2 h⟩
      rw [ha.ev hl2]
      exact v1
    | j + 2, he => simp at he
  · intro j hj
    match j, hj with
    | 0, _ =>
      have h5 := hb1
      rw [← v0] at h5
      exact h5
    | 1, _ =>
      have h5 := hb2
      rw [← v1] at h5
      exact h5
    | j + 2, hj => exact absurd hj (by simp <;> omega)
  · exact ⟨by simp [Src.lt], by simp [Src.lt]⟩
  · intro w hw C hC
    have := h w hw C hC
    simpa only [SV.val, den, v0, v1] using this

theorem wrap_bd (k : IntKind) (hk : kindOk k = true) (x : Int) : 0 ≤ k.wrap x ∧ k.wrap x < 18446744073709551616 := by
  cases k <;> simp only [kindOk] at hk <;> first | (exact absurd hk (by decide)) | skip
  · rw [IntKind.wrap_u8]; omega
  · rw [IntKind.wrap_u64]; omega
theorem bits_bd (op : BinOp) (hop : binOk op = true) (k : IntKind) (hk : kindOk k = true) (x y : Int) : 0 ≤ bop op k x y ∧ bop op k x y < 18446744073709551616 := by
  cases op <;> simp only [binOk] at hop <;> first | (exact absurd hop (by decide)) | skip
  all_goals first | exact wrap_bd k hk _ | (unfold bop bits; exact wrap_bd k hk _) | trace_state
theorem add_ptr (b o z : Nat) : (⟨b, o, none⟩ : Addr).add z = ⟨b, o + z, none⟩ := by unfold Addr.add; split <;> simp_all

theorem run_call_func {c : Call} {f : FuncId} (ho : o.op = .call c) (hc : c.callee = .value (.func f)) (w : World) : (execOp a.eval o).run P w = (callFunc f (c.args.map a.eval)).run P w := by
  unfold execOp
  simp [ho, resolve, hc, Deferred.ofValue, invoke, Act.eval]

theorem map2 {A B : Type} {f : A → B} {l : List A} {a b : B} (h : l.map f = [a, b]) : ∃ x y, l = [x, y] ∧ f x = a ∧ f y = b := by
  rcases l with _ | ⟨x, _ | ⟨y, _ | ⟨u, l⟩⟩⟩ <;> simp at h
  exact ⟨x, y, rfl, h.1, h.2⟩
theorem map3 {A B : Type} {f : A → B} {l : List A} {a b c : B} (h : l.map f = [a, b, c]) : ∃ x y z, l = [x, y, z] ∧ f x = a ∧ f y = b ∧ f z = c := by
  rcases l with _ | ⟨x, _ | ⟨y, _ | ⟨z, _ | ⟨u, l⟩⟩⟩⟩ <;> simp at h
  exact ⟨x, y, z, rfl, h.1, h.2.1, h.2.2⟩

theorem pure_sound (S : EngS P D) (R : Rel β γ ρ st a) {sv : SV} {es : List Ex} (h : pureV D st o = some (sv, es)) : Owes P β γ ρ st a o sv es := by
  unfold pureV at h
  split at h
  · -- move
    rename_i x ho
    obtain ⟨v, hv, hp⟩ := Option.map_eq_some_iff.1 h
    obtain ⟨rfl, rfl⟩ := Prod.mk.inj hp
    obtain ⟨h1, h2⟩ := opnd_sound R hv
    exact Owes.none h2 fun w _ => by
      unfold execOp
      simp only [ho, h1]
      rfl
  · rename_i x ho
    obtain ⟨v, hv, hp⟩ := Option.map_eq_some_iff.1 h
    obtain ⟨rfl, rfl⟩ := Prod.mk.inj hp
    obtain ⟨h1, h2⟩ := opnd_sound R hv
    exact Owes.none h2 fun w _ => by
      unfold execOp
      simp only [ho, h1]
      rfl
  · -- nilCheck
    rename_i x ho
    split at h
    · rename_i p q hv
      obtain ⟨rfl, rfl⟩ := Prod.mk.inj (Option.some.inj h)
      obtain ⟨h1, h2⟩ := opnd_sound R hv
      exact Owes.none h2 fun w _ => by
        unfold execOp
        simp only [ho, h1, SV.val]
        rfl
    · cases h
  · -- indexAddr
    rename_i t x i ho
    split at h
    · rename_i p q k z hx hi
      split at h
      · rename_i hz
        simp only [Bool.and_eq_true, decide_eq_true_eq] at hz
        obtain ⟨rfl, rfl⟩ := Prod.mk.inj (Option.some.inj h)
        obtain ⟨h1, h2⟩ := opnd_sound R hx
        obtain ⟨h3, _⟩ := opnd_sound R hi
        exact Owes.none h2 fun w _ => by
          unfold execOp
          simp only [ho, h1, h3, SV.val, den, Sem.run_bind, run_index1 S (show 0 < D.arr t by omega) _ _ z hz.1 hz.2, Result.andThen_ok, Sem.run_pure, add_ptr, Nat.add_assoc]
      · cases h
    · cases h
  · -- load
    rename_i t x ho
    split at h
    · rename_i p q hx
      split at h
      · rename_i k s k' hm hw
        split at h
        · rename_i hk
          obtain rfl : k = k' := by simpa using hk
          obtain ⟨rfl, rfl⟩ := Prod.mk.inj (Option.some.inj h)
          obtain ⟨h1, _⟩ := opnd_sound R hx
          exact Owes.none (R.lts _ _ _ _ hm).1 fun w hM => by
            unfold execOp
            simp only [ho, h1, SV.val, Sem.run_bind, run_load1 S hw _ _ w (hM p q k s hm), Result.andThen_ok, Sem.run_pure]
        · cases h
      · cases h
    · cases h
  · -- extract
    rename_i x i ho
    split at h
    · rename_i u v hx
      obtain ⟨h1, h2⟩ := opnd_sound R hx
      split at h
      · rename_i hi
        obtain rfl : i = 0 := by simpa using hi
        obtain ⟨rfl, rfl⟩ := Prod.mk.inj (Option.some.inj h)
        exact Owes.none h2.1 fun w _ => by
          unfold execOp
          simp only [ho, h1, SV.val, Sem.run_bind, (run_extract2 (P := P) _ _ w).1, Result.andThen_ok, Sem.run_pure]
      · split at h
        · rename_i hi
          obtain rfl : i = 1 := by simpa using hi
          obtain ⟨rfl, rfl⟩ := Prod.mk.inj (Option.some.inj h)
          exact Owes.none h2.2 fun w _ => by
            unfold execOp
            simp only [ho, h1, SV.val, Sem.run_bind, (run_extract2 (P := P) _ _ w).2, Result.andThen_ok, Sem.run_pure]
        · cases h
    · cases h
  · -- binOp
    rename_i op t x y ty ho
    split at h
    · rename_i k u k' v hx hy
      obtain ⟨h1, l1⟩ := opnd_sound R hx
      obtain ⟨h2, l2⟩ := opnd_sound R hy
      split at h
      · rename_i hop
        split at h
        · rename_i hk
          simp only [Bool.and_eq_true, decide_eq_true_eq] at hk
          obtain ⟨rfl, hk⟩ := hk
          obtain ⟨rfl, rfl⟩ := Prod.mk.inj (Option.some.inj h)
          refine Owes.one ⟨l1, l2⟩ rfl (bits_bd op hop k hk _ _) fun w _ => ?_
          unfold execOp
          simp only [ho, h1, h2, SV.val, ev]
          rw [Sem.run_bind, Sem.run_bind]
          have hg : eqGuard op t x y (.int k (den ρ u)) (.int k (den ρ v)) = pure () := by cases op <;> simp only [binOk] at hop <;> first | (exact absurd hop (by decide)) | rfl
          rw [hg]
          simp only [Sem.run_pure, Result.andThen_ok, run_binOp_ok op hop]
        · cases h
      · split at h
        · rename_i z hnop
          split at h
          · rename_i hz
            simp only [Bool.and_eq_true, decide_eq_true_eq] at hz
            obtain ⟨⟨z0, z1⟩, hk⟩ := hz
            obtain ⟨rfl, rfl⟩ := Prod.mk.inj (Option.some.inj h)
            refine Owes.one ⟨l1, trivial⟩ rfl (wrap_bd k hk _) fun w _ => ?_
            unfold execOp
            simp only [ho, h1, h2, SV.val, ev]
            rw [Sem.run_bind, Sem.run_bind]
            have hg : eqGuard .shl t x y (.int k (den ρ u)) (.int k' (den ρ (.c z))) = pure () := rfl
            rw [hg]
            simp only [Sem.run_pure, Result.andThen_ok, den, run_shl t k k' _ z z0]
          · cases h
        · rename_i z hnop
          split at h
          · rename_i hz
            simp only [Bool.and_eq_true, decide_eq_true_eq] at hz
            obtain ⟨⟨⟨z0, z1⟩, rfl⟩, hs⟩ := hz
            obtain ⟨rfl, rfl⟩ := Prod.mk.inj (Option.some.inj h)
            have hb := srcOk_bd R hs l1
            refine Owes.one ⟨l1, trivial⟩ rfl ?_ fun w _ => ?_
            · simp only [ev, bop, den]
              rw [Int.fdiv_eq_ediv_of_nonneg _ (Int.le_of_lt (Int.pow_pos (by decide)))]
              exact ⟨Int.ediv_nonneg hb.1 (Int.le_of_lt (Int.pow_pos (by decide))), Int.lt_of_le_of_lt (Int.ediv_le_self _ hb.1) hb.2⟩
            · unfold execOp
              simp only [ho, h1, h2, SV.val, ev]
              rw [Sem.run_bind, Sem.run_bind]
              have hg : eqGuard .shr t x y (.int .u64 (den ρ u)) (.int k' (den ρ (.c z))) = pure () := rfl
              rw [hg]
              simp only [Sem.run_pure, Result.andThen_ok, den, run_shr t .u64 k' _ z z0]
          · cases h
        · cases h
    · cases h
  · -- convert
    rename_i s d x ho
    split at h
    · rename_i k u ks kd hx hs hd
      obtain ⟨h1, l1⟩ := opnd_sound R hx
      have hus := S.hword s ks hs
      have hud := S.hword d kd hd
      have hcv : ∀ w, (convert s d (.int k (den ρ u))).run P w = .ok (.int kd (kd.wrap (den ρ u))) w := fun w => by
        have hik : P.intKind d = kd := by simp [Program.intKind, hud]
        rw [run_convert_int w s d k (den ρ u) (by rw [hus]; rfl) (by rw [hik, hud]), hik]
      split at h
      · rename_i hz
        simp only [Bool.and_eq_true, decide_eq_true_eq] at hz
        obtain ⟨⟨rfl, rfl⟩, hsr⟩ := hz
        obtain ⟨rfl, rfl⟩ := Prod.mk.inj (Option.some.inj h)
        have hb := srcOk_bd R hsr l1
        exact Owes.none l1 fun w _ => by
          unfold execOp
          simp only [ho, h1, SV.val]
          rw [Sem.run_bind, hcv w]
          have e : IntKind.u64.wrap (den ρ u) = den ρ u := by rw [IntKind.wrap_u64]; omega
          rw [e]
          rfl
      · split at h
        · rename_i hk
          obtain ⟨rfl, rfl⟩ := Prod.mk.inj (Option.some.inj h)
          refine Owes.one l1 rfl (wrap_bd kd hk _) fun w _ => ?_
          unfold execOp
          simp only [ho, h1, SV.val, ev]
          rw [Sem.run_bind, hcv w]
          rfl
        · cases h
    · cases h
  · -- call
    rename_i c ho
    split at h
    · rename_i f hf
      split at h
      · rename_i u v hl
        split at h
        · rename_i hz
          simp only [Bool.and_eq_true] at hz
          obtain ⟨⟨hff, h1⟩, h2⟩ := hz
          obtain rfl : f = D.fmul := Nat.eq_of_beq_eq_true hff
          obtain ⟨rfl, rfl⟩ := Prod.mk.inj (Option.some.inj h)
          · obtain ⟨x, y, hc, hx, hy⟩ := map2 hl
            obtain ⟨e1, l1⟩ := opnd_sound R hx
            obtain ⟨e2, l2⟩ := opnd_sound R hy
            have b1 := srcOk_bd R h1 l1
            have b2 := srcOk_bd R h2 l2
            have hargs : c.args.map a.eval = #[.int .u64 (den ρ u), .int .u64 (den ρ v)] := by
              apply Array.toList_inj.1
              rw [Array.toList_map, hc]
              simp [e1, e2, SV.val]
            have hp0 : 0 ≤ den ρ u * den ρ v := Int.mul_nonneg b1.1 b2.1
            have hp1 : den ρ u * den ρ v ≤ 18446744073709551615 * 18446744073709551615 := Int.mul_le_mul (by omega) (by omega) b2.1 (by decide)
            refine Owes.two ⟨l1, l2⟩ ⟨l1, l2⟩ (by simp only [ev]; omega) (by simp only [ev]; omega) rfl (fun h => by cases h) fun w _ C hC => ?_
            unfold Oper.quietAt
            rw [run_call_func ho hf, hargs, S.emul]
            exact ⟨rfl, (S.hmul _ _ w b1.1 b1.2 b2.1 b2.2).mono fun e w' ⟨he, hw⟩ => ⟨he, hw ▸ hC⟩⟩
        · cases h
      · rename_i u v cc hl
        split at h
        · rename_i hz
          simp only [Bool.and_eq_true] at hz
          obtain ⟨⟨h1, h2⟩, h3⟩ := hz
          · obtain ⟨x, y, z, hc, hx, hy, hz'⟩ := map3 hl
            obtain ⟨e1, l1⟩ := opnd_sound R hx
            obtain ⟨e2, l2⟩ := opnd_sound R hy
            obtain ⟨e3, l3⟩ := opnd_sound R hz'
            have b1 := srcOk_bd R h1 l1
            have b2 := srcOk_bd R h2 l2
            have b3 := bitOk_bd R h3
            have hargs : c.args.map a.eval = #[.int .u64 (den ρ u), .int .u64 (den ρ v), .int .u64 (den ρ cc)] := by
              apply Array.toList_inj.1
              rw [Array.toList_map, hc]
              simp [e1, e2, e3, SV.val]
            split at h
            · rename_i hfa
              obtain rfl : f = D.fadd := Nat.eq_of_beq_eq_true hfa
              obtain ⟨rfl, rfl⟩ := Prod.mk.inj (Option.some.inj h)
              refine Owes.two ⟨l1, l2, l3⟩ ⟨l1, l2, l3⟩ (by simp only [ev]; omega) (by simp only [ev]; omega) rfl (fun _ => by simp only [ev]; omega) fun w _ C hC => ?_
              refine quietAt_of_run ?_
              rw [run_call_func ho hf, hargs, S.hadd _ _ _ w b1.1 b1.2 b2.1 b2.2 b3]
              rfl
            · split at h
              · rename_i hfs
                obtain rfl : f = D.fsub := Nat.eq_of_beq_eq_true hfs
                obtain ⟨rfl, rfl⟩ := Prod.mk.inj (Option.some.inj h)
                refine Owes.two ⟨l1, l2, l3⟩ ⟨l1, l2, l3⟩ (by simp only [ev]; omega) (by simp only [ev]; split <;> omega) rfl (fun _ => by simp only [ev]; split <;> simp) fun w _ C hC => ?_
                refine quietAt_of_run ?_
                rw [run_call_func ho hf, hargs, S.hsub _ _ _ w b1.1 b1.2 b2.1 b2.2 b3]
                rfl
              · cases h
        · cases h
      · cases h
    · cases h
  · cases h

/-! One step, and lists of steps, that turn nothing. -/
def stepP (D : EngD) (st : St) (o : Oper) : Option St :=
  match o.guard, o.dst, pureV D st o with
  | none, some d, some (sv, es) => if decide (d < st.size) then some { st with n := st.n + es.length, env := (d, sv) :: st.env, defs := es.reverse ++ st.defs } else none
  | _, _, _ => none
def runP (D : EngD) : List Oper → St → Option St
  | [], st => some st
  | o :: l, st => match stepP D st o with
    | some st' => runP D l st'
    | none => none

theorem rel_step (R : Rel β γ ρ st a) {sv : SV} {es : List Ex} {d : Nat} {ρ' : Nat → Int} (hd : d < st.size) (hA : Agree st.n ρ ρ')
    (h1 : ∀ j e, es[j]? = some e → ρ' (st.n + j) = ev ρ' e ∧ e.lt st.n ∧ (e.isBit = true → ρ' (st.n + j) = 0 ∨ ρ' (st.n + j) = 1))
    (h2 : ∀ j, j < es.length → 0 ≤ ρ' (st.n + j) ∧ ρ' (st.n + j) < 18446744073709551616) (h3 : sv.lt (st.n + es.length) st.np) :
    Rel β γ ρ' { st with n := st.n + es.length, env := (d, sv) :: st.env, defs := es.reverse ++ st.defs } (a.put (some d) (sv.val β γ ρ')) := by
  have hsz : d < a.tmps.size := by rw [R.size]; exact hd
  refine ⟨?_, ?_, ?_, ?_, ?_, R.dfr⟩
  · simp [Act.put, R.size]
  · intro t sv' ht
    simp only [lookE] at ht
    split at ht
    · rename_i he
      obtain rfl : d = t := Nat.eq_of_beq_eq_true he
      obtain rfl := Option.some.inj ht
      exact ⟨by simp [Act.put, hsz], h3⟩
    · rename_i he
      have hne : d ≠ t := fun e => he (by rw [e]; exact Nat.beq_refl t)
      obtain ⟨k1, k2⟩ := R.env t sv' ht
      refine ⟨?_, SV.lt_mono (Nat.le_add_right _ _) (Nat.le_refl _) k2⟩
      rw [hA.val k2]
      simp only [Act.put]
      rw [Array.getElem?_setIfInBounds_ne hne]
      exact k1
  · intro i hi
    by_cases h : i < st.n
    · rw [hA i h]; exact R.bound i h
    · have := h2 (i - st.n) (by simp only at hi; omega)
      rw [show st.n + (i - st.n) = i by omega] at this
      exact this
  · intro i e hi he
    simp only at hi he ⊢
    by_cases h : i < st.n
    · have hj : st.n + es.length - 1 - i = es.reverse.length + (st.n - 1 - i) := by simp; omega
      rw [hj, List.getElem?_append_right (by omega)] at he
      simp only [Nat.add_sub_cancel_left] at he
      obtain ⟨k1, k2, k3⟩ := R.defs i e h he
      refine ⟨?_, Ex.lt_mono (Nat.le_add_right _ _) k2, ?_⟩
      · rw [hA i h, hA.ev k2]; exact k1
      · rw [hA i h]; exact k3
    · have hlt : st.n + es.length - 1 - i < es.reverse.length := by simp; omega
      rw [List.getElem?_append_left hlt, List.getElem?_reverse (by simpa using hlt)] at he
      have hj : es.length - 1 - (st.n + es.length - 1 - i) = i - st.n := by omega
      rw [hj] at he
      obtain ⟨k1, k2, k3⟩ := h1 _ e he
      rw [show st.n + (i - st.n) = i by omega] at k1 k3
      exact ⟨k1, Ex.lt_mono (Nat.le_add_right _ _) k2, k3⟩
  · intro p q k s hs
    exact ⟨Src.lt_mono (Nat.le_add_right _ _) (R.lts p q k s hs).1, (R.lts p q k s hs).2⟩

theorem memOk_agree (R : Rel β γ ρ st a) {ρ' : Nat → Int} (hA : Agree st.n ρ ρ') {w : World} (h : MemOk β γ ρ st w) {n' : Nat} {env' : List (Nat × SV)} {defs' : List Ex} :
    MemOk β γ ρ' { st with n := n', env := env', defs := defs' } w := by
  intro p q k s hs
  rw [hA.den (R.lts p q k s hs).1]
  exact h p q k s hs

theorem Agree.trans {n n' : Nat} {ρ ρ' ρ'' : Nat → Int} (h : Agree n ρ ρ') (h' : Agree n' ρ' ρ'') (hn : n ≤ n') : Agree n ρ ρ'' := fun i hi => (h' i (Nat.lt_of_lt_of_le hi hn)).trans (h i hi)

/-- A step that turns nothing: the value that it yields in every world where the cells are as told. -/
theorem stepP_sound (S : EngS P D) (R : Rel β γ ρ st a) {st' : St} (h : stepP D st o = some st') : o.guard = none ∧ st.n ≤ st'.n ∧ st'.mem = st.mem ∧ st'.np = st.np ∧
    ∃ ρ' v, Agree st.n ρ ρ' ∧ Rel β γ ρ' st' (a.put o.dst v) ∧ (∀ w, MemOk β γ ρ st w → MemOk β γ ρ' st' w) ∧ ∀ w, MemOk β γ ρ st w → ∀ C : World → Prop, C w → o.quietAt P a C w v := by
  unfold stepP at h
  split at h
  · rename_i d sv es hg hd hp
    split at h
    · rename_i hlt
      obtain rfl := Option.some.inj h
      obtain ⟨ρ', hA, h1, h2, h3, h4⟩ := pure_sound S R hp
      refine ⟨hg, Nat.le_add_right _ _, rfl, rfl, ρ', sv.val β γ ρ', hA, ?_, fun w hw => memOk_agree R hA hw, h4⟩
      rw [hd]
      exact rel_step R (by simpa using hlt) hA h1 h2 h3
    · cases h
  · cases h

theorem runP_list (S : EngS P D) {ops : Array Oper} {Q : Exit → Act → World → Prop} {w : World} : ∀ (l : List Oper) {st : St} {a : Act} {ρ : Nat → Int} {st' : St}, runP D l st = some st' → Rel β γ ρ st a → MemOk β γ ρ st w →
    ∀ rest, (∀ ρ' a', Agree st.n ρ ρ' → Rel β γ ρ' st' a' → MemOk β γ ρ' st' w → wpList P ops Q rest a' w) → wpList P ops Q (l ++ rest) a w
  | [], st, a, ρ, st', h, R, hM, rest, hQ => by
    obtain rfl := Option.some.inj h
    exact hQ ρ a (fun _ _ => rfl) R hM
  | o :: l, st, a, ρ, st', h, R, hM, rest, hQ => by
    simp only [runP] at h
    split at h
    · rename_i st1 hs
      obtain ⟨hg, hn, _, _, ρ1, v, hA, R1, hM1, hv⟩ := stepP_sound S R hs
      refine wpList_plain hg fun K hK => ?_
      refine Oper.wp_of_quiet (C := fun x => x = w) (K := fun a' => wpList P ops Q (l ++ rest) a' w) rfl (fun a' w' hw' h' => ?_) ⟨v, fun w' hw' => ?_, ?_⟩
      · obtain rfl := hw'
        exact hK _ _ h'
      · obtain rfl := hw'
        exact hv _ hM _ rfl
      · exact runP_list S l h R1 (hM1 _ hM) rest fun ρ' a' hA' => hQ ρ' a' (hA.trans hA' hn)
    · cases h

theorem runP_quiet (S : EngS P D) {ops : Array Oper} {C : World → Prop} {Q : Act → Prop} : ∀ (l : List Oper) {st : St} {a : Act} {ρ : Nat → Int} {st' : St}, runP D l st = some st' → Rel β γ ρ st a → (∀ w, C w → MemOk β γ ρ st w) →
    (∀ ρ' a', Agree st.n ρ ρ' → Rel β γ ρ' st' a' → (∀ w, C w → MemOk β γ ρ' st' w) → Q a') → wpQuiet P ops C Q l a
  | [], st, a, ρ, st', h, R, hM, hQ => by
    obtain rfl := Option.some.inj h
    exact hQ ρ a (fun _ _ => rfl) R hM
  | o :: l, st, a, ρ, st', h, R, hM, hQ => by
    simp only [runP] at h
    split at h
    · rename_i st1 hs
      obtain ⟨hg, hn, _, _, ρ1, v, hA, R1, hM1, hv⟩ := stepP_sound S R hs
      refine wpQuiet_step fun K hK => ?_
      rw [if_pos (by simp [Region.wanted, hg])]
      exact ⟨v, fun w hw => hv w (hM w hw) C hw, hK _ (runP_quiet S l h R1 (fun w hw => hM1 w (hM w hw)) fun ρ' a' hA' => hQ ρ' a' (hA.trans hA' hn))⟩
    · cases h
end
end Go.Proofs.Ytgdjmgcolipcnaa
