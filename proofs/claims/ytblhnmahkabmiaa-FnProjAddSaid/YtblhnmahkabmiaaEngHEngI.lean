/-
  What is proved here: the engine on elements: its steps are sound. No program in sight.
  Conditions: those of each theorem.
-/
import Derived.Test.YtblhnmahkabmiaaEngG
namespace Go.Proofs.Ytblhnmahkabmiaa
open Go Go.RowKit Ecp
set_option linter.unusedSimpArgs false
set_option linter.unusedVariables false

section
variable {P : Program} {D : FD} {β γ : Nat → Nat} {ins : Nat → Fp} {nin np0 L olen : Nat} {w0 : World} {st : FSt} {a : Act} {w : World} {o : Oper}

theorem args1 (R : FR β γ ins nin np0 L olen w0 st a w) {c : Call} {v1 : FV} (h : c.args.toList.map (opF st) = [some v1]) : c.args.map a.eval = #[v1.val β γ] ∧ v1.lt st.np := by
  obtain ⟨x, hc, hx⟩ := map1 h
  obtain ⟨e1, l1⟩ := opF_sound R hx
  refine ⟨?_, l1⟩
  apply Array.toList_inj.1
  rw [Array.toList_map, hc]
  simp [e1]
theorem args2 (R : FR β γ ins nin np0 L olen w0 st a w) {c : Call} {v1 v2 : FV} (h : c.args.toList.map (opF st) = [some v1, some v2]) : c.args.map a.eval = #[v1.val β γ, v2.val β γ] ∧ v1.lt st.np ∧ v2.lt st.np := by
  obtain ⟨x, y, hc, hx, hy⟩ := map2 h
  obtain ⟨e1, l1⟩ := opF_sound R hx
  obtain ⟨e2, l2⟩ := opF_sound R hy
  refine ⟨?_, l1, l2⟩
  apply Array.toList_inj.1
  rw [Array.toList_map, hc]
  simp [e1, e2]
theorem args3 (R : FR β γ ins nin np0 L olen w0 st a w) {c : Call} {v1 v2 v3 : FV} (h : c.args.toList.map (opF st) = [some v1, some v2, some v3]) : c.args.map a.eval = #[v1.val β γ, v2.val β γ, v3.val β γ] ∧ v1.lt st.np ∧ v2.lt st.np ∧ v3.lt st.np := by
  obtain ⟨x, y, z, hc, hx, hy, hz⟩ := map3 h
  obtain ⟨e1, l1⟩ := opF_sound R hx
  obtain ⟨e2, l2⟩ := opF_sound R hy
  obtain ⟨e3, l3⟩ := opF_sound R hz
  refine ⟨?_, l1, l2, l3⟩
  apply Array.toList_inj.1
  rw [Array.toList_map, hc]
  simp [e1, e2, e3]
theorem args4 (R : FR β γ ins nin np0 L olen w0 st a w) {c : Call} {v1 v2 v3 v4 : FV} (h : c.args.toList.map (opF st) = [some v1, some v2, some v3, some v4]) : c.args.map a.eval = #[v1.val β γ, v2.val β γ, v3.val β γ, v4.val β γ] ∧ v1.lt st.np ∧ v2.lt st.np ∧ v3.lt st.np ∧ v4.lt st.np := by
  obtain ⟨x, y, z, u, hc, hx, hy, hz, hu⟩ := map4 h
  obtain ⟨e1, l1⟩ := opF_sound R hx
  obtain ⟨e2, l2⟩ := opF_sound R hy
  obtain ⟨e3, l3⟩ := opF_sound R hz
  obtain ⟨e4, l4⟩ := opF_sound R hu
  refine ⟨?_, l1, l2, l3, l4⟩
  apply Array.toList_inj.1
  rw [Array.toList_map, hc]
  simp [e1, e2, e3, e4]

/-- Where an element may be laid, the words are free. -/
theorem FR.free (R : FR β γ ins nin np0 L olen w0 st a w) {p q : Nat} (hp : p < st.np) (hc : canW np0 olen st p q = true) : Free w (β p) (γ p + q) 4 := by
  simp only [canW, Bool.and_eq_true] at hc
  obtain ⟨_, hc⟩ := hc
  split at hc
  · rename_i h0
    obtain rfl := Nat.eq_of_beq_eq_true h0
    exact R.out.sub (by omega) (by have := Nat.le_of_ble_eq_true hc; omega)
  · simp only [Bool.and_eq_true] at hc
    have h2 := hc.2
    split at h2
    · rename_i len hlen
      obtain ⟨k1, k2, k3, k4⟩ := R.loc p (Nat.le_of_ble_eq_true hc.1) hp
      rw [k3]
      exact (k4 len hlen).sub (by omega) (by have := Nat.le_of_ble_eq_true h2; omega)
    · cases h2
theorem layN_can {p q d : Nat} {e : FEx} {v : FV} {st' : FSt} (h : layN nin np0 olen st p q e d v = some st') : canW np0 olen st p q = true := by
  unfold layN at h
  split at h
  · rename_i hc
    simp only [Bool.and_eq_true] at hc
    exact hc.1
  · cases h
theorem layO_can {p q d i : Nat} {v : FV} {st' : FSt} (h : layO np0 olen st p q i d v = some st') : canW np0 olen st p q = true := by
  unfold layO at h
  split at h
  · rename_i hc
    simp only [Bool.and_eq_true] at hc
    exact hc.1
  · cases h

/-- What a call does. -/
theorem callF_sound (S : EngF P D) (R : FR β γ ins nin np0 L olen w0 st a w) {c : Call} {f d : Nat} {k : FK} {st' : FSt} (hk : D.kind f = some k) (h : callF D nin np0 olen st d k (c.args.toList.map (opF st)) = some st') {next : Act → World → Prop} (hG : FGo β γ ins nin np0 L olen w0 st' next) :
    Calls P f (c.args.map a.eval) w fun e w' => ∃ v, e = .returned v ∧ next (a.put (some d) v) w' := by
  generalize hl : c.args.toList.map (opF st) = l at h
  have refl : ∀ p, p < np0 → β p = β p ∧ γ p = γ p := fun _ _ => ⟨rfl, rfl⟩
  unfold callF at h
  split at h
  · -- mul
    rename_i p q p1 q1 p2 q2
    split at h
    · rename_i i j h1 h2
      obtain ⟨ha, l0, l1, l2⟩ := args3 R hl
      obtain ⟨i1, i2, i3, i4, i5⟩ := R.mem _ _ _ h1
      obtain ⟨j1, j2, j3, j4, j5⟩ := R.mem _ _ _ h2
      rw [ha]
      refine (S.hmul f hk _ _ _ _ _ _ _ _ w (R.blk l0) (R.blk i2) (R.blk j2) (R.free l0 (layN_can h)) i5 j5).mono ?_
      rintro e w' ⟨rfl, hT, hE⟩
      exact ⟨_, rfl, hG β γ _ _ refl (R.layN h l0 l0 hT hE)⟩
    · cases h
  · -- add
    rename_i p q p1 q1 p2 q2
    split at h
    · rename_i i j h1 h2
      obtain ⟨ha, l0, l1, l2⟩ := args3 R hl
      obtain ⟨i1, i2, i3, i4, i5⟩ := R.mem _ _ _ h1
      obtain ⟨j1, j2, j3, j4, j5⟩ := R.mem _ _ _ h2
      rw [ha]
      refine (S.hadd f hk _ _ _ _ _ _ _ _ w (R.blk l0) (R.blk i2) (R.blk j2) (R.free l0 (layN_can h)) i5 j5).mono ?_
      rintro e w' ⟨rfl, hT, hE⟩
      exact ⟨_, rfl, hG β γ _ _ refl (R.layN h l0 l0 hT hE)⟩
    · cases h
  · -- sub
    rename_i p q p1 q1 p2 q2
    split at h
    · rename_i i j h1 h2
      obtain ⟨ha, l0, l1, l2⟩ := args3 R hl
      obtain ⟨i1, i2, i3, i4, i5⟩ := R.mem _ _ _ h1
      obtain ⟨j1, j2, j3, j4, j5⟩ := R.mem _ _ _ h2
      rw [ha]
      refine (S.hsub f hk _ _ _ _ _ _ _ _ w (R.blk l0) (R.blk i2) (R.blk j2) (R.free l0 (layN_can h)) i5 j5).mono ?_
      rintro e w' ⟨rfl, hT, hE⟩
      exact ⟨_, rfl, hG β γ _ _ refl (R.layN h l0 l0 hT hE)⟩
    · cases h
  · -- sq
    split at h
    · rename_i i h1
      obtain ⟨ha, l0, l1⟩ := args2 R hl
      obtain ⟨i1, i2, i3, i4, i5⟩ := R.mem _ _ _ h1
      rw [ha]
      refine (S.hsq f hk _ _ _ _ _ w (R.blk l0) (R.blk i2) (R.free l0 (layN_can h)) i5).mono ?_
      rintro e w' ⟨rfl, hT, hE⟩
      exact ⟨_, rfl, hG β γ _ _ refl (R.layN h l0 l0 hT hE)⟩
    · cases h
  · -- set
    split at h
    · rename_i i h1
      obtain ⟨ha, l0, l1⟩ := args2 R hl
      obtain ⟨i1, i2, i3, i4, i5⟩ := R.mem _ _ _ h1
      rw [ha]
      refine (S.hset f hk _ _ _ _ _ w (R.blk l0) (R.blk i2) (R.free l0 (layO_can h)) i5).mono ?_
      rintro e w' ⟨rfl, hT, hE⟩
      exact ⟨_, rfl, hG β γ _ _ refl (R.layO h l0 l0 i1 hT hE)⟩
    · cases h
  · -- one
    obtain ⟨ha, l0⟩ := args1 R hl
    rw [ha]
    refine (S.hone f hk _ _ w (R.blk l0) (R.free l0 (layN_can h))).mono ?_
    rintro e w' ⟨rfl, hT, hE⟩
    exact ⟨_, rfl, hG β γ _ _ refl (R.layN h l0 l0 hT hE)⟩
  · -- sel
    split at h
    · rename_i i j h1 h2
      obtain ⟨ha, l0, l1, l2, _⟩ := args4 R hl
      obtain ⟨i1, i2, i3, i4, i5⟩ := R.mem _ _ _ h1
      obtain ⟨j1, j2, j3, j4, j5⟩ := R.mem _ _ _ h2
      split at h
      · rename_i hik
        obtain rfl := (by simpa using hik : _ = D.ik)
        rw [ha]
        split at h
        · rename_i hz
          obtain rfl := (by simpa using hz : _ = (1 : Int))
          refine (S.hsel f hk _ _ _ _ _ _ _ _ _ w (.inr rfl) (R.blk l0) (R.blk i2) (R.blk j2) (R.free l0 (layO_can h)) i5 j5).mono ?_
          rintro e w' ⟨rfl, hT, hE⟩
          rw [if_pos rfl] at hE
          exact ⟨_, rfl, hG β γ _ _ refl (R.layO h l0 l0 i1 hT hE)⟩
        · split at h
          · rename_i hz
            obtain rfl := (by simpa using hz : _ = (0 : Int))
            refine (S.hsel f hk _ _ _ _ _ _ _ _ _ w (.inl rfl) (R.blk l0) (R.blk i2) (R.blk j2) (R.free l0 (layO_can h)) i5 j5).mono ?_
            rintro e w' ⟨rfl, hT, hE⟩
            rw [if_neg (by decide)] at hE
            exact ⟨_, rfl, hG β γ _ _ refl (R.layO h l0 l0 j1 hT hE)⟩
          · cases h
      · cases h
    · cases h
  · -- the curve's constant
    have ha : c.args.map a.eval = #[] := by
      apply Array.toList_inj.1
      rw [Array.toList_map, List.map_eq_nil_iff.1 hl]
      rfl
    rw [ha]
    refine (S.hB f hk w).mono ?_
    rintro e w' ⟨b, rfl, h1, h2, hE, hF, hx⟩
    have hnp := R.np
    refine ⟨_, rfl, hG _ _ _ _ (fun p hp => ⟨updN_off _ _ _ _ (by omega), updN_off _ _ _ _ (by omega)⟩) (R.newB h hE h1 h2 hF fun q hq => ?_)⟩
    rcases hq with rfl | ⟨hq, _⟩
    · exact hx
    · exact absurd hq (by decide)
  · -- squares
    split at h
    · rename_i i h1
      split at h
      · rename_i hz
        simp only [Bool.and_eq_true, decide_eq_true_eq] at hz
        obtain ⟨⟨rfl, z1⟩, z2⟩ := hz
        obtain ⟨ha, l0, l1, _⟩ := args3 R hl
        obtain ⟨i1, i2, i3, i4, i5⟩ := R.mem _ _ _ h1
        rw [ha]
        refine (S.hsqn f hk _ _ _ _ _ _ w z1 z2 (R.blk l0) (R.blk i2) (R.free l0 (layN_can h)) i5).mono ?_
        rintro e w' ⟨rfl, hT, hE⟩
        exact ⟨_, rfl, hG β γ _ _ refl (R.layN h l0 trivial hT hE)⟩
      · cases h
    · cases h
  · cases h

theorem stepF_sound (S : EngF P D) (R : FR β γ ins nin np0 L olen w0 st a w) {st' : FSt} (h : stepF D nin np0 olen st o = some st') :
    o.guard = none ∧ ∀ (next : Act → World → Prop) (Q : Exit → Act → World → Prop), FGo β γ ins nin np0 L olen w0 st' next → o.wp P a w next Q := by
  unfold stepF at h
  split at h
  case h_2 => cases h
  rename_i d hg hd
  refine ⟨hg, fun next Q hG => ?_⟩
  split at h
  · rename_i v hv
    split at h
    · rename_i hlt
      obtain rfl := Option.some.inj h
      obtain ⟨h1, h2⟩ := pureF_sound S R hv
      unfold Oper.wp
      rw [h2]
      simp only [Oper.upon, hd]
      exact hG β γ _ _ (fun _ _ => ⟨rfl, rfl⟩) (R.put (by simpa [Nat.blt_eq] using hlt) h1)
    · cases h
  · split at h
    · -- alloc
      rename_i t ho
      split at h
      · rename_i len ht
        split at h
        · rename_i hlen
          unfold Oper.wp execOp
          simp only [ho]
          rw [Sem.run_bind, S.halc t len ht w]
          simp only [Result.andThen_ok, Sem.run_pure, Oper.upon, hd]
          have hnp := R.np
          have hat := heap_at w (.cells (List.replicate len (Value.int .u64 0)).toArray t) w.heap.size rfl
          have hL : len = 4 ∨ len = 12 := by
            simp only [Bool.or_eq_true] at hlen
            exact hlen.imp Nat.eq_of_beq_eq_true Nat.eq_of_beq_eq_true
          refine hG _ _ _ _ (fun p hp => ⟨updN_off _ _ _ _ (by omega), updN_off _ _ _ _ (by omega)⟩) (R.newB h ?_ (Nat.le_refl _) (by rw [size_alloc]; omega) (Free.zero t hat) fun q hq => Elt.zero t hat ?_)
          · exact Ext.of_below ⟨rfl, rfl, rfl, by rw [size_alloc]; omega, fun k hk => heap_past _ _ _ hk⟩
          · rcases hq with rfl | ⟨rfl, rfl | rfl⟩
            · omega
            · decide
            · decide
        · cases h
      · cases h
    · rename_i c ho
      split at h
      · rename_i f hf
        split at h
        · rename_i k hk
          unfold Oper.wp
          rw [run_call_func ho hf, S.enter f k hk]
          simp only [Oper.upon]
          refine (callF_sound S R hk h hG).mono ?_
          rintro e w' ⟨v, rfl, hn⟩
          simp only [hd]
          exact hn
        · cases h
      · cases h
    · cases h

/-! Lists, regions, code. -/
def runL (D : FD) (nin np0 olen : Nat) : List Oper → FSt → Option FSt
  | [], st => some st
  | o :: l, st => match stepF D nin np0 olen st o with
    | some st' => runL D nin np0 olen l st'
    | none => none

theorem FGo.move {st' : FSt} {next : Act → World → Prop} {β' γ' : Nat → Nat} (h : FGo β γ ins nin np0 L olen w0 st' next) (hp : ∀ p, p < np0 → β' p = β p ∧ γ' p = γ p) : FGo β' γ' ins nin np0 L olen w0 st' next :=
  fun β2 γ2 a2 w2 h1 R2 => h β2 γ2 a2 w2 (fun p hp' => ⟨(h1 p hp').1.trans (hp p hp').1, (h1 p hp').2.trans (hp p hp').2⟩) R2

theorem runL_sound (S : EngF P D) {ops : Array Oper} {Q : Exit → Act → World → Prop} : ∀ (l : List Oper) {st : FSt} {a : Act} {w : World} {β γ : Nat → Nat} {st' : FSt}, runL D nin np0 olen l st = some st' → FR β γ ins nin np0 L olen w0 st a w →
    FGo β γ ins nin np0 L olen w0 st' (fun a' w' => Q .normal a' w') → wpList P ops Q l a w
  | [], st, a, w, β, γ, st', h, R, hG => by
    obtain rfl := Option.some.inj h
    exact hG β γ a w (fun _ _ => ⟨rfl, rfl⟩) R
  | o :: l, st, a, w, β, γ, st', h, R, hG => by
    simp only [runL] at h
    split at h
    · rename_i st1 hs
      obtain ⟨hg, hgo⟩ := stepF_sound S R hs
      refine wpList_plain hg fun K hK => ?_
      refine hgo K Q ?_
      intro β' γ' a' w' hp R'
      exact hK _ _ (runL_sound S l h R' (hG.move hp))
    · cases h

/-- The first operation of these that turns nothing and may be taken first. -/
def firstPure (D : FD) (st : FSt) (ops : Array Oper) (listed : Array Bool) : List Nat → Option (Nat × FSt)
  | [] => none
  | i :: r => match ops[i]? with
    | some o => match o.guard, o.dst, pureF D st o with
      | none, some d, some v => if Nat.blt d st.sz && Region.free .any ops listed i then some (i, { st with env := (d, v) :: st.env }) else firstPure D st ops listed r
      | _, _, _ => firstPure D st ops listed r
    | none => firstPure D st ops listed r

/-- A new block and the curve's constant, in either order. -/
def isAlc (D : FD) (o : Oper) : Option (Nat × Nat) :=
  match o.guard, o.dst, o.op with
  | none, some d, .alloc t => match D.alc t with
    | some len => if Nat.beq len 4 || Nat.beq len 12 then some (len, d) else none
    | none => none
  | _, _, _ => none
def isB (D : FD) (o : Oper) : Option Nat :=
  match o.guard, o.dst, o.op with
  | none, some d, .call c => match c.callee with
    | .value (.func f) => match D.kind f, c.args.toList with
      | some .b, [] => some d
      | _, _ => none
    | _ => none
  | _, _, _ => none
def pairF (D : FD) (nin : Nat) (st : FSt) (oi oj : Oper) : Option FSt :=
  match isAlc D oi, isB D oj with
  | some (len, di), some dj => if Nat.beq di dj then none else match newB nin st len .zero di with
    | some st1 => newB nin st1 4 .cb dj
    | none => none
  | _, _ => none
def isOne : List Nat → Nat → Bool
  | [x], y => Nat.beq x y
  | _, _ => false

def runR (D : FD) (nin np0 olen : Nat) (ops : Array Oper) : Nat → Array Bool → FSt → Option FSt
  | 0, listed, st => match Region.ready .any ops listed with
    | [] => some st
    | _ => none
  | f + 1, listed, st => match Region.ready .any ops listed with
    | [] => some st
    | i :: r => match firstPure D st ops listed (i :: r) with
      | some (j, st') => runR D nin np0 olen ops f (listed.setIfInBounds j true) st'
      | none => match r with
        | [] => match ops[i]? with
          | some o => match stepF D nin np0 olen st o with
            | some st' => runR D nin np0 olen ops f (listed.setIfInBounds i true) st'
            | none => none
          | none => none
        | [j] => match f with
          | 0 => none
          | g + 1 => match ops[i]?, ops[j]? with
            | some oi, some oj => if isOne (Region.ready .any ops (listed.setIfInBounds i true)) j && isOne (Region.ready .any ops (listed.setIfInBounds j true)) i then
                match pairF D nin st oi oj with
                | some st' => runR D nin np0 olen ops g ((listed.setIfInBounds i true).setIfInBounds j true) st'
                | none => none
              else none
            | _, _ => none
        | _ => none

theorem firstPure_spec {ops : Array Oper} {listed : Array Bool} : ∀ {r : List Nat} {j : Nat} {st' : FSt}, firstPure D st ops listed r = some (j, st') →
    j ∈ r ∧ ∃ o d v, ops[j]? = some o ∧ o.guard = none ∧ o.dst = some d ∧ pureF D st o = some v ∧ d < st.sz ∧ Region.free .any ops listed j = true ∧ st' = { st with env := (d, v) :: st.env }
  | [], j, st', h => by simp [firstPure] at h
  | i :: r, j, st', h => by
    simp only [firstPure] at h
    split at h
    · rename_i o ho
      split at h
      · rename_i d v hg hd hv
        split at h
        · rename_i hc
          simp only [Bool.and_eq_true] at hc
          obtain ⟨rfl, rfl⟩ := Prod.mk.inj (Option.some.inj h)
          exact ⟨List.mem_cons_self, o, d, v, ho, hg, hd, hv, by simpa [Nat.blt_eq] using hc.1, hc.2, rfl⟩
        · obtain ⟨h1, h2⟩ := firstPure_spec h
          exact ⟨List.mem_cons_of_mem _ h1, h2⟩
      · obtain ⟨h1, h2⟩ := firstPure_spec h
        exact ⟨List.mem_cons_of_mem _ h1, h2⟩
    · obtain ⟨h1, h2⟩ := firstPure_spec h
      exact ⟨List.mem_cons_of_mem _ h1, h2⟩

theorem wanted_none {o : Oper} (hg : o.guard = none) (ys : Nat → Option Bool) : Region.wanted o ys = true := by
  unfold Region.wanted; simp [hg]

theorem isOne_spec {l : List Nat} {y : Nat} (h : isOne l y = true) : l = [y] := by
  unfold isOne at h
  split at h
  · rw [Nat.eq_of_beq_eq_true h]
  · cases h
theorem isAlc_spec {o : Oper} {len d : Nat} (h : isAlc D o = some (len, d)) : o.guard = none ∧ o.dst = some d ∧ ∃ t, o.op = .alloc t ∧ D.alc t = some len ∧ (len = 4 ∨ len = 12) := by
  unfold isAlc at h
  split at h
  · rename_i d' t hg hd ho
    split at h
    · rename_i len' hl
      split at h
      · rename_i hc
        obtain ⟨rfl, rfl⟩ := Prod.mk.inj (Option.some.inj h)
        simp only [Bool.or_eq_true] at hc
        exact ⟨hg, hd, t, ho, hl, hc.imp Nat.eq_of_beq_eq_true Nat.eq_of_beq_eq_true⟩
      · cases h
    · cases h
  · cases h
theorem isB_spec {o : Oper} {d : Nat} (h : isB D o = some d) : o.guard = none ∧ o.dst = some d ∧ ∃ c f, o.op = .call c ∧ c.callee = .value (.func f) ∧ D.kind f = some .b ∧ c.args = #[] := by
  unfold isB at h
  split at h
  · rename_i d' c hg hd ho
    split at h
    · rename_i f hf
      split at h
      · rename_i hk ha
        obtain rfl := Option.some.inj h
        exact ⟨hg, hd, c, f, ho, hf, hk, Array.toList_inj.1 (by rw [ha])⟩
      · cases h
    · cases h
  · cases h
theorem alc_run (S : EngF P D) {o : Oper} {t : TypeId} {len : Nat} (ho : o.op = .alloc t) (hl : D.alc t = some len) (a : Act) (w : World) : (execOp a.eval o).run P w = .ok (.value (.pointer (some ⟨w.heap.size, 0, none⟩))) (w.alloc (.cells (List.replicate len (Value.int .u64 0)).toArray t)) := by
  unfold execOp
  simp only [ho]
  rw [Sem.run_bind, S.halc t len hl w]
  simp only [Result.andThen_ok, Sem.run_pure]
theorem b_run (S : EngF P D) {o : Oper} {c : Call} {f : FuncId} (ho : o.op = .call c) (hf : c.callee = .value (.func f)) (hk : D.kind f = some .b) (ha : c.args = #[]) (a : Act) (w : World) : (execOp a.eval o).run P w = .ok (.enter f #[]) w := by
  rw [run_call_func ho hf, ha, show (#[] : Array Operand).map a.eval = #[] by simp]
  exact S.enter f .b hk _ w
theorem set_self (listed : Array Bool) (i : Nat) : (listed.setIfInBounds i true).getD i true = true := by
  rw [Array.getD_eq_getD_getElem?]
  by_cases h : i < listed.size
  · simp [h]
  · simp [h]

theorem runR_sound (S : EngF P D) {ops : Array Oper} {Q : Exit → Act → World → Prop} (hsel : Region.noSelect ops = true) (hQ : ∀ c a w, ¬ Q (.panic c) a w) :
    ∀ (f : Nat) {listed : Array Bool} {st : FSt} {a : Act} {w : World} {β γ : Nat → Nat} {st' : FSt}, runR D nin np0 olen ops f listed st = some st' → FR β γ ins nin np0 L olen w0 st a w →
    FGo β γ ins nin np0 L olen w0 st' (fun a' w' => Q .normal a' w') → wpAny P .any ops Q f listed a w
  | 0, listed, st, a, w, β, γ, st', h, R, hG => by
    simp only [runR] at h
    split at h
    · rename_i hr
      obtain rfl := Option.some.inj h
      exact wpAny_done hr (hG β γ a w (fun _ _ => ⟨rfl, rfl⟩) R) 0
    · cases h
  | f + 1, listed, st, a, w, β, γ, st', h, R, hG => by
    simp only [runR] at h
    split at h
    · rename_i hr
      obtain rfl := Option.some.inj h
      exact wpAny_done hr (hG β γ a w (fun _ _ => ⟨rfl, rfl⟩) R) _
    · rename_i i r hr
      split at h
      · rename_i j st1 hp
        obtain ⟨hm, o, d, v, ho, hg, hd, hv, hlt, hf, rfl⟩ := firstPure_spec hp
        obtain ⟨h1, h2⟩ := pureF_sound S R hv
        refine wpAny_take ho hsel hf (by rw [hr]; simpa using hm) (fun c a w hc => absurd hc (hQ _ _ _)) (v := v.val β γ) (.inl ⟨wanted_none hg _, h2⟩) ?_
        rw [hd]
        exact runR_sound S hsel hQ f h (R.put hlt h1) hG
      · split at h
        · split at h
          · rename_i o ho
            split at h
            · rename_i st1 hs
              obtain ⟨hg, hgo⟩ := stepF_sound S R hs
              refine wpAny_all hr (by simp) fun i' hi' => ?_
              obtain rfl : i' = i := by simpa using hi'
              refine wpOp_step ho fun K hK => ?_
              rw [if_pos (wanted_none hg _)]
              refine hgo K Q ?_
              intro β' γ' a' w' hp R'
              exact hK _ _ (runR_sound S hsel hQ f h R' (hG.move hp))
            · cases h
          · cases h
        · rename_i j hfp
          split at h
          · cases h
          · rename_i g
            split at h
            · rename_i oi oj hoi hoj
              split at h
              · rename_i hone
                simp only [Bool.and_eq_true] at hone
                have hr1 := isOne_spec hone.1
                have hr2 := isOne_spec hone.2
                split at h
                · rename_i st2 hp
                  unfold pairF at hp
                  split at hp
                  · rename_i len di dj hi hj
                    split at hp
                    · cases hp
                    · rename_i hne
                      have hne' : di ≠ dj := fun e => hne (by rw [e]; exact Nat.beq_refl _)
                      split at hp
                      · rename_i st1 hn1
                        obtain ⟨gi, ddi, t, oti, hlen, hl4⟩ := isAlc_spec hi
                        obtain ⟨gj, ddj, c, fj, otj, hcal, hkj, hargs⟩ := isB_spec hj
                        have hnp := R.np
                        have hnp1 : st1.np = st.np + 1 := by
                          unfold newB at hn1
                          split at hn1
                          · rw [← Option.some.inj hn1]
                          · cases hn1
                        have hz : ∀ {cc : Nat} {ww : World}, ww.heap[cc]? = some (.cells (List.replicate len (Value.int .u64 0)).toArray t) → ∀ q, (q = 0 ∨ (len = 12 ∧ (q = 4 ∨ q = 8))) → Elt ww cc q (evF (denF ins nin st.defs) .zero) := fun hat q hq => Elt.zero t hat (by
                          rcases hq with rfl | ⟨rfl, rfl | rfl⟩
                          · rcases hl4 with rfl | rfl <;> decide
                          · decide
                          · decide)
                        have hb4 : ∀ {dd : Nat} {ww : World}, Elt ww dd 0 cB → ∀ q, (q = 0 ∨ ((4 : Nat) = 12 ∧ (q = 4 ∨ q = 8))) → Elt ww dd q (evF (denF ins nin st1.defs) .cb) := fun hE q hq => by
                          rcases hq with rfl | ⟨hq, _⟩
                          · exact hE
                          · exact absurd hq (by decide)
                        refine wpAny_all hr (by simp) fun i' hi' => ?_
                        rcases (by simpa using hi' : i' = i ∨ i' = j) with h0 | h0
                        · -- the block first
                          rw [h0]
                          refine wpOp_step hoi fun K hK => ?_
                          rw [if_pos (wanted_none gi _)]
                          unfold Oper.wp
                          rw [alc_run S oti hlen]
                          simp only [Oper.upon, ddi]
                          refine hK _ _ (wpAny_all hr1 (by simp) fun j' hj' => ?_)
                          have h5 : j' = j := by simpa using hj'
                          rw [h5]
                          refine wpOp_step hoj fun K2 hK2 => ?_
                          rw [if_pos (wanted_none gj _)]
                          unfold Oper.wp
                          rw [b_run S otj hcal hkj hargs]
                          simp only [Oper.upon]
                          have hat := heap_at w (.cells (List.replicate len (Value.int .u64 0)).toArray t) w.heap.size rfl
                          have R1 := R.newB (w' := w.alloc (.cells (List.replicate len (Value.int .u64 0)).toArray t)) hn1 (Ext.of_below ⟨rfl, rfl, rfl, by rw [size_alloc]; omega, fun k hk => heap_past _ _ _ hk⟩) (Nat.le_refl _) (by rw [size_alloc]; omega) (Free.zero t hat) (hz hat)
                          refine (S.hB fj hkj _).mono ?_
                          rintro e w2 ⟨b, rfl, hb1, hb2, hE2, hF2, hx2⟩
                          simp only [ddj]
                          have R2 := R1.newB hp hE2 hb1 hb2 hF2 (hb4 hx2)
                          exact hK2 _ _ (runR_sound S hsel hQ g h R2 (hG.move fun p hp' => ⟨by rw [updN_off _ _ _ _ (by omega), updN_off _ _ _ _ (by omega)], by rw [updN_off _ _ _ _ (by omega), updN_off _ _ _ _ (by omega)]⟩))
                        · -- the constant first
                          rw [h0]
                          refine wpOp_step hoj fun K hK => ?_
                          rw [if_pos (wanted_none gj _)]
                          unfold Oper.wp
                          rw [b_run S otj hcal hkj hargs]
                          simp only [Oper.upon]
                          refine (S.hB fj hkj _).mono ?_
                          rintro e w2 ⟨b, rfl, hb1, hb2, hE2, hF2, hx2⟩
                          simp only [ddj]
                          refine hK _ _ (wpAny_all hr2 (by simp) fun j' hj' => ?_)
                          have h5 : j' = i := by simpa using hj'
                          rw [h5]
                          refine wpOp_step hoi fun K2 hK2 => ?_
                          rw [if_pos (wanted_none gi _)]
                          unfold Oper.wp
                          rw [alc_run S oti hlen]
                          simp only [Oper.upon, ddi]
                          have hat := heap_at w2 (.cells (List.replicate len (Value.int .u64 0)).toArray t) w2.heap.size rfl
                          have hE3 : Ext w2 (w2.alloc (.cells (List.replicate len (Value.int .u64 0)).toArray t)) := Ext.of_below ⟨rfl, rfl, rfl, by rw [size_alloc]; omega, fun k hk => heap_past _ _ _ hk⟩
                          have hsz := hE2.below.size
                          have R1 := R.newB hn1 (hE2.trans hE3) hsz (by rw [size_alloc]; omega) (Free.zero t hat) (hz hat)
                          obtain ⟨g3, hg3⟩ := hE3
                          have R2 := R1.newB0 (b := b) hp (Ext.refl _) (Nat.le_trans R.trn.size hb1) (fun p hp' e => by
                            by_cases hpn : p = st.np
                            · rw [hpn, updN_at] at e; omega
                            · rw [updN_off _ _ _ _ hpn] at e
                              have := R.blk (show p < st.np by omega)
                              omega) (by rw [size_alloc]; omega) (by rw [hg3]; exact hF2.ext hb2 g3) (hb4 (by rw [hg3]; exact hx2.ext hb2 g3))
                          rw [Act.put_comm _ _ _ (fun d hd hd' => hne' (by rw [Option.some.inj hd, Option.some.inj hd']))] at R2
                          have hij : i ≠ j := fun e => by
                            have hm : j ∈ Region.ready .any ops (listed.setIfInBounds i true) := by rw [hr1]; simp
                            have := (mem_ready.1 hm).1
                            rw [← e, set_self] at this
                            cases this
                          rw [Array.setIfInBounds_comm _ _ hij] at h
                          exact hK2 _ _ (runR_sound S hsel hQ g h R2 (hG.move fun p hp' => ⟨by rw [updN_off _ _ _ _ (by omega), updN_off _ _ _ _ (by omega)], by rw [updN_off _ _ _ _ (by omega), updN_off _ _ _ _ (by omega)]⟩))
                      · cases hp
                  · cases hp
                · cases h
              · cases h
            · cases h
        · cases h
end
end Go.Proofs.Ytblhnmahkabmiaa
/-
  What is proved here: the engine on elements: code, calls, and how it starts at pointers. No program in sight.
  Conditions: those of each theorem.
-/
namespace Go.Proofs.Ytblhnmahkabmiaa
open Go Go.RowKit Ecp
set_option linter.unusedSimpArgs false
set_option linter.unusedVariables false

section
variable {P : Program} {D : FD} {β γ : Nat → Nat} {ins : Nat → Fp} {nin np0 L olen : Nat} {w0 : World} {st : FSt} {a : Act} {w : World} {o : Oper}

def runCF (D : FD) (nin np0 olen : Nat) : Code → FSt → Option (FSt × Bool)
  | .skip, st => some (st, false)
  | .ret, st => some (st, true)
  | .region _ ops d, st => match d with
    | false => (runL D nin np0 olen ops.toList st).map fun s => (s, false)
    | true => if Region.noSelect ops then (runR D nin np0 olen ops ops.size (Array.replicate ops.size false) st).map fun s => (s, false) else none
  | .seq x y, st => match runCF D nin np0 olen x st with
    | some (st1, false) => runCF D nin np0 olen y st1
    | some (st1, true) => some (st1, true)
    | none => none
  | _, _ => none

theorem runCF_sound (S : EngF P D) : ∀ (c : Code) {Q : Exit → Act → World → Prop} {st : FSt} {a : Act} {w : World} {β γ : Nat → Nat} {st' : FSt} {r : Bool}, runCF D nin np0 olen c st = some (st', r) → FR β γ ins nin np0 L olen w0 st a w →
    FGo β γ ins nin np0 L olen w0 st' (fun a' w' => Q (if r then .ret else .normal) a' w') → c.wp P Q a w := by
  intro c
  induction c with
  | skip =>
    intro Q st a w β γ st' r h R hG
    simp only [runCF] at h
    obtain ⟨rfl, rfl⟩ := Prod.mk.inj (Option.some.inj h)
    exact wp_skip (hG β γ a w (fun _ _ => ⟨rfl, rfl⟩) R)
  | ret =>
    intro Q st a w β γ st' r h R hG
    simp only [runCF] at h
    obtain ⟨rfl, rfl⟩ := Prod.mk.inj (Option.some.inj h)
    exact wp_ret (hG β γ a w (fun _ _ => ⟨rfl, rfl⟩) R)
  | region id ops d =>
    intro Q st a w β γ st' r h R hG
    cases d <;> simp only [runCF] at h
    · obtain ⟨s1, h1, h2⟩ := Option.map_eq_some_iff.1 h
      obtain ⟨rfl, rfl⟩ := Prod.mk.inj h2
      obtain ⟨l⟩ := ops
      exact wp_region_lit (runL_sound S _ h1 R hG)
    · split at h
      · rename_i hsel
        obtain ⟨s1, h1, h2⟩ := Option.map_eq_some_iff.1 h
        obtain ⟨rfl, rfl⟩ := Prod.mk.inj h2
        refine Code.wp_mono (Q := fun e a w => e = .normal ∧ Q .normal a w) (fun e a w he => by obtain ⟨rfl, he⟩ := he; exact he) ?_
        refine wp_region_any S.fol ?_
        refine runR_sound S hsel (fun c a w hc => by cases hc.1) _ h1 (R.drewN 1) ?_
        intro β' γ' a' w' hp R'
        exact ⟨rfl, hG β' γ' a' w' hp R'⟩
      · cases h
  | seq x y ihx ihy =>
    intro Q st a w β γ st' r h R hG
    simp only [runCF] at h
    split at h
    · rename_i st1 hx
      refine wp_seq (ihx hx R ?_)
      intro β' γ' a' w' hp R'
      exact ihy h R' (hG.move hp)
    · rename_i st1 hx
      obtain ⟨rfl, rfl⟩ := Prod.mk.inj (Option.some.inj h)
      exact wp_seq (ihx hx R hG)
    · cases h
  | _ => intro Q st a w β γ st' r h; simp only [runCF] at h; cases h

/-- A function that returns one slot, run by the engine. -/
theorem engF_call (S : EngF P D) {f : FuncId} {fn : Func} {c : Code} {args : Array Value} {r : Bool} {st' : FSt} {t : Nat} {v : FV} (hf : P.funcs[f]? = some fn) (hb : fn.body = some c) (hres : fn.results = #[.tmp t])
    (hrun : runCF D nin np0 olen c st = some (st', r)) (hv : lookL st'.env t = some v) (R : FR β γ ins nin np0 L olen w st { tmps := args ++ Array.replicate (fn.ntmps - args.size) undef, defers := [] } w) :
    Calls P f args w fun e w' => ∃ β' γ' a', e = .returned (v.val β' γ') ∧ (∀ p, p < np0 → β' p = β p ∧ γ' p = γ p) ∧ FR β' γ' ins nin np0 L olen w st' a' w' := by
  refine calls_of_wp hf hb (runCF_sound S c hrun R ?_)
  intro β' γ' a' w' hp R'
  have hr : (results fn a'.tmps).run P w' = .ok (v.val β' γ') w' := by
    rw [results_tmp hres, Array.getD_eq_getD_getElem?, (R'.env t v hv).1]
    rfl
  cases r
  · exact bodyPost_end hr R'.dfr ⟨β', γ', a', rfl, hp, R'⟩
  · exact bodyPost_ret hr R'.dfr ⟨β', γ', a', rfl, hp, R'⟩

/-! Starts. -/
theorem lookL_mem {A : Type} : ∀ {l : List (Nat × A)} {t : Nat} {v : A}, lookL l t = some v → (t, v) ∈ l
  | (t', v') :: l, t, v, h => by
    simp only [lookL] at h
    split at h
    · rename_i he
      obtain rfl := Nat.eq_of_beq_eq_true he
      obtain rfl := Option.some.inj h
      exact List.mem_cons_self
    · exact List.mem_cons_of_mem _ (lookL_mem h)
theorem lookP_mem : ∀ {l : MemF} {p q i : Nat}, lookP l p q = some i → ((p, q), i) ∈ l
  | ((p', q'), j) :: l, p, q, i, h => by
    simp only [lookP] at h
    split at h
    · rename_i he
      simp only [Bool.and_eq_true] at he
      have e1 := Nat.eq_of_beq_eq_true he.1
      have e2 := Nat.eq_of_beq_eq_true he.2
      subst e1 e2
      obtain rfl := Option.some.inj h
      exact List.mem_cons_self
    · exact List.mem_cons_of_mem _ (lookP_mem h)

/-- The start: slots that hold parameters, places that hold the names that came in. -/
theorem FR.start {sz nin np0 L olen : Nat} {env : List (Nat × FV)} {mem : MemF} {args : Array Value} {n : Nat} (hn : n = sz) (hsz : args.size ≤ sz)
    (henv : ∀ t v, (t, v) ∈ env → t < args.size ∧ args[t]? = some (v.val β γ) ∧ v.lt np0) (hpos : 0 < np0)
    (hmem : ∀ p q i, ((p, q), i) ∈ mem → i < nin ∧ p < np0 ∧ q % 4 = 0 ∧ q + 4 ≤ L ∧ Elt w (β p) (γ p + q) (ins i))
    (hpar : ∀ p, p < np0 → β p < w.heap.size) {al : Bool} (hsep : ∀ p, 0 < p → p < np0 → β p ≠ β 0 ∨ (al = true ∧ γ p = γ 0) ∨ γ p + L ≤ γ 0 ∨ γ 0 + L ≤ γ p) (hout : Free w (β 0) (γ 0) olen) (hoL : olen ≤ L) :
    FR β γ ins nin np0 L olen w { sz := sz, np := np0, env := env, defs := [], mem := mem, lens := [], al := al } { tmps := args ++ Array.replicate (n - args.size) undef, defers := [] } w := by
  refine ⟨?_, ?_, rfl, ?_, Nat.le_refl _, hpos, hpar, hsep, ?_, ?_, ?_, hout, hoL, Turned.refl _ _ _ _⟩
  · simp; omega
  · intro t v ht
    obtain ⟨h1, h2, h3⟩ := henv t v (lookL_mem ht)
    exact ⟨by rw [Array.getElem?_append_left h1]; exact h2, h3⟩
  · intro p q i h
    obtain ⟨h1, h2, h3, h4, h5⟩ := hmem p q i (lookP_mem h)
    exact ⟨h1, h2, h3, fun _ => h4, h5⟩
  · intro p h1 h2
    simp only at h2
    omega
  · intro p len h
    simp [lookL] at h
  · intro p q h1 h2
    simp only at h2
    omega
end
end Go.Proofs.Ytblhnmahkabmiaa
