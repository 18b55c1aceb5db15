/-
  What is proved here: whole rows of cells (elements, bytes, points, triples) as the walk meets them: their sizes, their parts, how a part of a block is read. 
  Conditions: those of each theorem.
-/
import Derived.Test.YtgdjmgcolipcnaaSpecMaSpecM
import Derived.Test.YtgdjmgcolipcnaaSpecPSpecQ
import Derived.Test.YtgdjmgcolipcnaaNumRegMem
import Derived.Test.YtgdjmgcolipcnaaArrEq
import Derived.Deep.MidRow
import Derived.Deep.WholeRow
import Derived.Laws.Rows
import Derived.Laws.Tables
import Derived.Test.YtgdjmgcolipcnaaProg
import Derived.WalkKit
import Derived.WalkSpells
import Derived.Outline
import Derived.Handy
import Derived.ProofKit
import Derived.Deep.QuietTactic
import Derived.BigQuiet
import Derived.Lib.Hide
import Derived.OpenShut
namespace Go.Proofs.Ytgdjmgcolipcnaa
open Go Go.RowKit Ecp
set_option linter.unusedSimpArgs false
set_option linter.unusedVariables false

/-! Rows. -/
def ec (S : Int) : Array Value := ((digs 8 S).map (Value.int .i64)).toArray
def bc (S : Int) : Array Value := ((bds 32 S).reverse.map (Value.int .u8)).toArray
def pc (f : Bool) (X Y : Int) : Array Value := #[.bool f] ++ ec X ++ ec Y
def tc (X Y Z : Int) : Array Value := bc X ++ bc Y ++ bc Z
theorem E8_ec (S : Int) : E8 S = .agg (ec S) := rfl
theorem B32_bc (S : Int) : B32 S = .agg (bc S) := rfl
theorem Fv_ec (x : Fp) : Fv x = .agg (ec (x.val : Int)) := rfl
theorem ec_lit0 : ec 0 = #[.int .i64 0, .int .i64 0, .int .i64 0, .int .i64 0, .int .i64 0, .int .i64 0, .int .i64 0, .int .i64 0] := by rfl
theorem ec_lit1 : ec 1 = #[.int .i64 1, .int .i64 0, .int .i64 0, .int .i64 0, .int .i64 0, .int .i64 0, .int .i64 0, .int .i64 0] := by rfl
theorem Fv_ec' : Fv cB = .agg (ec (cB.val : Int)) := rfl
theorem ec_size (S : Int) : (ec S).size = 8 := by simp [ec, digs_length]
theorem bc_size (S : Int) : (bc S).size = 32 := by simp [bc, bds_length]
theorem pc_size (f : Bool) (X Y : Int) : (pc f X Y).size = 17 := by simp [pc, ec_size]
theorem tc_size (X Y Z : Int) : (tc X Y Z).size = 96 := by simp [tc, bc_size]
theorem all_one_int (k : IntKind) (l : List Int) : ((l.map (Value.int k)).toArray).all (·.oneCell') = true := by
  rw [Array.all_eq_true_iff_forall_mem]
  intro v hv
  simp only [List.mem_toArray, List.mem_map] at hv
  obtain ⟨x, _, rfl⟩ := hv
  rfl
theorem ec_one (S : Int) : (ec S).all (·.oneCell') = true := all_one_int _ _
theorem bc_one (S : Int) : (bc S).all (·.oneCell') = true := all_one_int _ _
theorem pc_one (f : Bool) (X Y : Int) : (pc f X Y).all (·.oneCell') = true := by
  unfold pc
  rw [Array.all_append, Array.all_append, ec_one, ec_one]
  simp [Value.oneCell']
theorem tc_one (X Y Z : Int) : (tc X Y Z).all (·.oneCell') = true := by
  unfold tc
  rw [Array.all_append, Array.all_append, bc_one, bc_one, bc_one]
  simp
theorem ext1 (a b : Array Value) : (a ++ b).extract 0 (0 + a.size) = a := by simp
theorem ext2 (a b c : Array Value) : (a ++ b ++ c).extract a.size (a.size + b.size) = b := by
  have hs : ((a ++ b ++ c).extract a.size (a.size + b.size)).size = b.size := by rw [Array.size_extract]; simp only [Array.size_append]; omega
  apply Array.ext hs
  intro i h1 h2
  rw [Array.getElem_extract, Array.getElem_append_left (by rw [Array.size_append]; omega), Array.getElem_append_right (by omega)]
  congr 1
  omega
theorem ext3 (a b c : Array Value) : (a ++ b ++ c).extract (a.size + b.size) (a.size + b.size + c.size) = c := by
  have hs : ((a ++ b ++ c).extract (a.size + b.size) (a.size + b.size + c.size)).size = c.size := by rw [Array.size_extract]; simp only [Array.size_append]; omega
  apply Array.ext hs
  intro i h1 h2
  rw [Array.getElem_extract, Array.getElem_append_right (by rw [Array.size_append]; omega)]
  congr 1
  rw [Array.size_append]
  omega
theorem pc_x (f : Bool) (X Y : Int) : (pc f X Y).extract 1 (1 + (ec X).size) = ec X := ext2 #[.bool f] (ec X) (ec Y)
theorem pc_y (f : Bool) (X Y : Int) : (pc f X Y).extract 9 (9 + (ec Y).size) = ec Y := by
  have h := ext3 #[.bool f] (ec X) (ec Y)
  have e : (#[Value.bool f] : Array Value).size + (ec X).size = 9 := by rw [ec_size]; rfl
  rw [e] at h
  exact h
theorem tc_x (X Y Z : Int) : (tc X Y Z).extract 0 (0 + (bc X).size) = bc X := by
  have h := ext1 (bc X) (bc Y ++ bc Z)
  rw [← Array.append_assoc] at h
  exact h
theorem tc_y (X Y Z : Int) : (tc X Y Z).extract 32 (32 + (bc Y).size) = bc Y := by
  have h := ext2 (bc X) (bc Y) (bc Z)
  rw [bc_size X] at h
  exact h
theorem tc_z (X Y Z : Int) : (tc X Y Z).extract 64 (64 + (bc Z).size) = bc Z := by
  have h := ext3 (bc X) (bc Y) (bc Z)
  rw [bc_size X, bc_size Y] at h
  exact h

/-! A part of a block is read. -/
section
variable {P : Program}
theorem rangeAt_part {w : World} {b : Nat} {C : Array Value} {t : TypeId} {fr : Nat × Nat} (hb : w.heap[b]? = some (.cells C t fr)) {o : Nat} {c : Array Value} (hc : C.extract o (o + c.size) = c) : w.rangeAt b o c.toList := by
  have h := World.rangeAt_of_block hb o c.size
  rw [hc] at h
  exact h
theorem wpList_load_part {ops : Array Oper} {rest : List Oper} {op : Oper} {a : Act} {w : World} {Q : Exit → Act → World → Prop} (hgd : op.guard = none) (ty : TypeId) (x : Operand) (ho : op.op = .load ty x)
    (b o : Nat) (hx : a.eval x = .pointer (some ⟨b, o, none⟩)) (C : Array Value) (t : TypeId) (fr : Nat × Nat) (hb : w.heap[b]? = some (.cells C t fr)) (c : Array Value) (hc : C.extract o (o + c.size) = c) (d : TypeDesc)
    (hu : P.underlying ty = some d) (hd : d.isRow = true) (hi : (P.info? ty).map (·.size) = some c.size)
    (h : wpList P ops Q rest (a.put op.dst (.agg c)) w) : wpList P ops Q (op :: rest) a w :=
  wpList_load_mid hgd ty x ho b o hx c.toList d (rangeAt_part hb hc) hu hd (by rw [hi, Array.length_toList]) (by rw [Array.toArray_toList]; exact h)
theorem quiet_load_part {o : Oper} {a : Act} {C : World → Prop} {K : Act → Prop} (ty : TypeId) (x : Operand) (ho : o.op = .load ty x)
    (b off : Nat) (hx : a.eval x = .pointer (some ⟨b, off, none⟩)) (B : Array Value) (t : TypeId) (fr : Nat × Nat) (hb : ∀ w, C w → w.heap[b]? = some (.cells B t fr)) (c : Array Value) (hc : B.extract off (off + c.size) = c) (d : TypeDesc)
    (hu : P.underlying ty = some d) (hd : d.isRow = true) (hi : (P.info? ty).map (·.size) = some c.size)
    (h : K (a.put o.dst (.agg c))) : o.quiet P a C K :=
  ⟨.agg c, fun w hw => by
    unfold Oper.quietAt execOp
    have h1 := run_loadVar_mid (P := P) w b off ty c.toList d (rangeAt_part (hb w hw) hc) hu hd (by rw [hi, Array.length_toList])
    rw [Array.toArray_toList] at h1
    simp only [ho, hx, Instr.loadAt, Instr.sureAddr, Sem.run_bind, Sem.run_pure, Result.andThen_ok, h1]
    exact ⟨rfl, rfl⟩, h⟩
theorem quiet_build {o : Oper} {a : Act} {C : World → Prop} {K : Act → Prop} (t : TypeId) (parts : Array (Nat × Operand)) (ho : o.op = .build t parts) (c : Array Value)
    (hf : P.built t (parts.map fun (i, x) => (i, a.eval x)).toList = some c) (h : K (a.put o.dst (.agg c))) : o.quiet P a C K :=
  ⟨.agg c, fun w hw => by
    unfold Oper.quietAt execOp
    simp only [ho, Sem.run_bind, run_build w t _ c hf, Result.andThen_ok]
    exact ⟨rfl, rfl⟩, h⟩
theorem wpList_build' {ops : Array Oper} {rest : List Oper} {o : Oper} {a : Act} {w : World} {Q : Exit → Act → World → Prop} (hg : o.guard = none) (t : TypeId) (parts : Array (Nat × Operand)) (ho : o.op = .build t parts) (c : Array Value)
    (hf : P.built t (parts.map fun (i, x) => (i, a.eval x)).toList = some c)
    (h : wpList P ops Q rest (a.put o.dst (.agg c)) w) : wpList P ops Q (o :: rest) a w :=
  wpList_build hg t parts ho (by rw [hf]; rfl) (by rw [hf]; exact h)
end
theorem act_put_none (a : Act) (v : Value) : a.put none v = a := rfl
section
variable {P : Program} {ops : Array Oper} {rest : List Oper} {o : Oper} {a : Act} {w : World} {Q : Exit → Act → World → Prop}
/-! The same where an operation bears a guard that says yes. -/
theorem wpList_want (hw : Region.wanted o (yielded ops a.tmps) = true) (h : ∀ K : Act → World → Prop, (∀ a w, wpList P ops Q rest a w → K a w) → o.wp P a w K Q) : wpList P ops Q (o :: rest) a w :=
  wpList_step fun K hK => by rw [if_pos hw]; exact h K hK
theorem wpList_load_rowW (hw : Region.wanted o (yielded ops a.tmps) = true) (ty : TypeId) (x : Operand) (ho : o.op = .load ty x)
    (g : Nat) (hx : a.eval x = .pointer (some ⟨g, 0, none⟩)) (t : TypeId) (cs : Array Value) (fr : Nat × Nat) (d : TypeDesc) (hg : w.heap[g]? = some (.cells cs t fr))
    (hu : P.underlying ty = some d) (hd : (match d with | .struct _ | .array _ _ => true | _ => false) = true) (hi : (P.info? ty).map (·.size) = some cs.size)
    (h : wpList P ops Q rest (a.put o.dst (.agg cs)) w) : wpList P ops Q (o :: rest) a w :=
  wpList_want hw fun _ hK => wp_load_row ty x ho g hx t cs fr d hg hu hd hi (hK _ _ h)
theorem wpList_load_partW (hw : Region.wanted o (yielded ops a.tmps) = true) (ty : TypeId) (x : Operand) (ho : o.op = .load ty x)
    (b off : Nat) (hx : a.eval x = .pointer (some ⟨b, off, none⟩)) (C : Array Value) (t : TypeId) (fr : Nat × Nat) (hb : w.heap[b]? = some (.cells C t fr)) (c : Array Value) (hc : C.extract off (off + c.size) = c) (d : TypeDesc)
    (hu : P.underlying ty = some d) (hd : d.isRow = true) (hi : (P.info? ty).map (·.size) = some c.size)
    (h : wpList P ops Q rest (a.put o.dst (.agg c)) w) : wpList P ops Q (o :: rest) a w :=
  wpList_want hw fun _ hK => wp_load_mid ty x ho b off hx c.toList d (rangeAt_part hb hc) hu hd (by rw [hi, Array.length_toList]) (by rw [Array.toArray_toList]; exact hK _ _ h)
theorem wpList_store_rowW (hw : Region.wanted o (yielded ops a.tmps) = true) (ty : TypeId) (x y : Operand) (ho : o.op = .store ty x y)
    (g : Nat) (cells : Array Value) (hx : a.eval x = .pointer (some ⟨g, 0, none⟩)) (hy : a.eval y = .agg cells)
    (t : TypeId) (old : Array Value) (hg : w.heap[g]? = some (.cells old t (0, 0))) (hi : (P.info? ty).map (·.size) = some cells.size)
    (hold : old.size = cells.size) (h1 : cells.all (·.oneCell') = true)
    (h : wpList P ops Q rest (a.put o.dst undef) (w.setRow g cells)) : wpList P ops Q (o :: rest) a w :=
  wpList_want hw fun _ hK => wp_store_row ty x y ho g cells hx hy t old hg hi hold h1 (hK _ _ h)
theorem wpList_buildW (hw : Region.wanted o (yielded ops a.tmps) = true) (t : TypeId) (parts : Array (Nat × Operand)) (ho : o.op = .build t parts) (c : Array Value)
    (hf : P.built t (parts.map fun (i, x) => (i, a.eval x)).toList = some c)
    (h : wpList P ops Q rest (a.put o.dst (.agg c)) w) : wpList P ops Q (o :: rest) a w :=
  wpList_want hw fun K hK => wp_build t parts ho (by rw [hf]; rfl) (by rw [hf]; exact hK _ _ h)
end
theorem ext_heap {u v : World} (h : Ext u v) {b : Nat} {x : Obj} (hb : u.heap[b]? = some x) : v.heap[b]? = some x := by
  obtain ⟨g, rfl⟩ := h
  rw [heap_ext _ _ _ (Array.getElem?_eq_some_iff.1 hb).1]
  exact hb
theorem heap_lt {w : World} {b : Nat} {x : Obj} (hb : w.heap[b]? = some x) : b < w.heap.size := (Array.getElem?_eq_some_iff.1 hb).1
theorem Ext.setRow {u w : World} (h : Ext u w) {g : Nat} (hg : u.heap.size ≤ g) (c : Array Value) : Ext u (w.setRow g c) := by
  obtain ⟨h1, h2, h3, h4, h5⟩ := h.below
  exact Ext.of_below ⟨h1, h2, h3, by rw [setRow_size]; exact h4, fun k hk => by rw [setRow_other _ _ _ _ (by omega)]; exact h5 k hk⟩
/-! What this program's types are. -/
theorem inE (S : Int) : (Try.prog.info? 26).map (·.size) = some (ec S).size := by rw [ec_size]; kernel_rfl
theorem inB (S : Int) : (Try.prog.info? 22).map (·.size) = some (bc S).size := by rw [bc_size]; kernel_rfl
theorem inP (f : Bool) (X Y : Int) : (Try.prog.info? 28).map (·.size) = some (pc f X Y).size := by rw [pc_size]; kernel_rfl
theorem inT (X Y Z : Int) : (Try.prog.info? 24).map (·.size) = some (tc X Y Z).size := by rw [tc_size]; kernel_rfl
/-! The comparison of two elements. -/
theorem eqlE (a b : Int) (w : World) : (binOp .eql 26 (.agg (ec a)) (.agg (ec b))).run Try.prog w = .ok (.bool (decide (digs 8 a = digs 8 b))) w :=
  run_eql_ints (P := Try.prog) w 26 2 8 .i64 Try.underlying26 Try.underlying2 (fun w => by simp [go_sem]) _ _ (digs_length _ _) (digs_length _ _)
theorem neqE (a b : Int) (w : World) : (binOp .neq 26 (.agg (ec a)) (.agg (ec b))).run Try.prog w = .ok (.bool (!decide (digs 8 a = digs 8 b))) w :=
  run_neq_ints (P := Try.prog) w 26 2 8 .i64 Try.underlying26 Try.underlying2 (fun w => by simp [go_sem]) _ _ (digs_length _ _) (digs_length _ _)
theorem digs_fp (x y : Fp) : decide (digs 8 (x.val : Int) = digs 8 (y.val : Int)) = decide (x = y) := by
  apply decide_eq_decide.2
  constructor
  · intro h
    exact fp_ext (digs_inj (fv_bd x).1 (fv_bd x).2 (fv_bd y).1 (fv_bd y).2 h)
  · intro h; rw [h]
/-! The arithmetic of elements by rows. -/
theorem Times_row (x y : Fp) (w : World) : Calls Try.prog 13 #[.agg (ec (x.val : Int)), .agg (ec (y.val : Int))] w fun e w' => e = .returned (.agg (ec ((x * y : Fp).val : Int))) ∧ Ext w w' := Times_any x y w
theorem Plus_row (x y : Fp) (w : World) : Calls Try.prog 36 #[.agg (ec (x.val : Int)), .agg (ec (y.val : Int))] w fun e w' => e = .returned (.agg (ec ((x + y : Fp).val : Int))) ∧ Ext w w' := Plus_any x y w
theorem Minus_row (x y : Fp) (w : World) : Calls Try.prog 35 #[.agg (ec (x.val : Int)), .agg (ec (y.val : Int))] w fun e w' => e = .returned (.agg (ec ((x - y : Fp).val : Int))) ∧ Ext w w' := Minus_any x y w
theorem be_bc {X : Int} (h0 : 0 ≤ X) (h1 : X < R256) : be (bds 32 X).reverse = X := by
  unfold be
  rw [List.reverse_reverse, bal_B32 h0 h1]
theorem Of_row (X : Int) (h0 : 0 ≤ X) (h1 : X < R256) (w : World) : Calls Try.prog 8 #[.agg (bc X)] w fun e w' => e = .returned (.agg (ec X)) ∧ Ext w w' := by
  have h := Of_any (bds 32 X).reverse (by rw [List.length_reverse, bds_length]) (fun x hx => bds_bd 32 X x (List.mem_reverse.1 hx)) w
  rw [be_bc h0 h1] at h
  exact h
theorem Below_row (a b : Int) (ha0 : 0 ≤ a) (ha : a < R256) (hb0 : 0 ≤ b) (hb : b < R256) (w : World) : Calls Try.prog 10 #[.agg (ec a), .agg (ec b)] w fun e w' => e = .returned (.bool (decide (a < b))) ∧ Ext w w' := Below_any a b ha0 ha hb0 hb w
theorem results_cell_tmp {P : Program} {fn : Func} {p q : Tmp} {ty : TypeId} (h : fn.results = #[.cell p ty, .tmp q]) (tmps : Array Value) (w : World) (g : Nat) (t : TypeId) (cs : Array Value) (fr : Nat × Nat) (d : TypeDesc)
    (hp : tmps.getD p undef = .pointer (some ⟨g, 0, none⟩)) (v : Value) (hv : tmps.getD q undef = v) (hg : w.heap[g]? = some (.cells cs t fr))
    (hu : P.underlying ty = some d) (hd : (match d with | .struct _ | .array _ _ => true | _ => false) = true) (hi : (P.info? ty).map (·.size) = some cs.size) :
    (results fn tmps).run P w = .ok (.tuple #[.agg cs, v]) w := by
  subst hv
  have hp' : tmps[p]?.getD undef = .pointer (some ⟨g, 0, none⟩) := by simpa using hp
  simp [results, h, hp', asAddr, run_loadVar_row w g t ty cs fr d hg hu hd hi]
attribute [irreducible] ec bc pc tc
end Go.Proofs.Ytgdjmgcolipcnaa
/-
  What is proved here: what the reference's power of an element returns.
  Conditions: those of each theorem.
-/
namespace Go.Proofs.Ytgdjmgcolipcnaa
open Go Go.RowKit Ecp
set_option linter.unusedSimpArgs false
set_option linter.unusedVariables false

theorem digs_at : ∀ (k : Nat) (S : Int) (i : Nat), i < k → (digs k S).getD i 0 = S / 4294967296 ^ i % 4294967296
  | 0, _, _, h => by omega
  | k + 1, S, 0, _ => by simp [digs]
  | k + 1, S, i + 1, h => by
    have := digs_at k (S / 4294967296) i (by omega)
    simp only [digs, List.getD_cons_succ, this]
    rw [Int.pow_succ, Int.mul_comm, Int.ediv_ediv_of_nonneg (by decide)]
/-- What the loop keeps of the memory. -/
structure PwS (w wr : World) (m : Nat) (x E o : Int) : Prop where
  ext : Ext w wr
  ge : w.heap.size + 1 + 1 < m
  a : wr.heap[w.heap.size]? = some (.cells (ec x) 26 (0, 0))
  e : wr.heap[w.heap.size + 1]? = some (.cells (ec E) 26 (0, 0))
  r : wr.heap[w.heap.size + 1 + 1]? = some (.cells (ec 0) 26 (0, 0))
  o : wr.heap[m]? = some (.cells (ec o) 26 (0, 0))
theorem PwS.step {w wr w' : World} {m : Nat} {x E o : Int} (h : PwS w wr m x E o) (hE : Ext wr w') (o' : Int) : PwS w (w'.setRow m (ec o')) m x E o' where
  ext := (h.ext.trans hE).setRow (by have := h.ge; omega) _
  ge := h.ge
  a := by rw [setRow_other _ _ _ _ (by have := h.ge; omega)]; exact ext_heap hE h.a
  e := by rw [setRow_other _ _ _ _ (by have := h.ge; omega)]; exact ext_heap hE h.e
  r := by rw [setRow_other _ _ _ _ (by have := h.ge; omega)]; exact ext_heap hE h.r
  o := setRow_heap _ _ _ _ _ _ (ext_heap hE h.o)
theorem cell_ec {w : World} {b : Nat} {S : Int} {t : TypeId} {fr : Nat × Nat} (h : w.heap[b]? = some (.cells (ec S) t fr)) (i : Nat) (hi : i < 8) : w.cell? ⟨b, i, none⟩ = some (.int .i64 (S / 4294967296 ^ i % 4294967296)) := by
  rw [cell_of_row w b i _ t fr h, ← digs_at 8 S i hi]
  have hl : i < (digs 8 S).length := by rw [digs_length]; exact hi
  simp [ec, List.getD, hl]
theorem and_one (c : Nat) : bits BinOp.and IntKind.i64 (c : Int) 1 = ((c % 2 : Nat) : Int) := by
  have e : (BitVec.ofInt 64 (c : Int) &&& BitVec.ofInt 64 1).toNat = c % 2 := by
    rw [BitVec.toNat_and]
    have h1 : (BitVec.ofInt 64 1).toNat = 1 := by decide
    have h2 : (BitVec.ofInt 64 (c : Int)).toNat = c % 18446744073709551616 := by simp [BitVec.toNat_ofInt]
    rw [h1, h2, show (1 : Nat) = 2 ^ 1 - 1 from rfl, Nat.and_two_pow_sub_one_eq_mod]
    omega
  show IntKind.i64.wrap (((BitVec.ofInt 64 (c : Int) &&& BitVec.ofInt 64 1).toNat : Nat) : Int) = _
  rw [e]
  simp [IntKind.wrap, IntKind.signed, IntKind.bits]
  omega
theorem bit_nat (E j : Nat) : E / 4294967296 ^ (j / 32) % 4294967296 / 2 ^ (j % 32) % 2 = E / 2 ^ j % 2 := by
  rw [show (4294967296 : Nat) = 2 ^ 32 from rfl, ← Nat.pow_mul]
  have h1 : ∀ a b : Nat, a % 2 < 2 → b % 2 < 2 → (a % 2 = 1 ↔ b % 2 = 1) → a % 2 = b % 2 := fun a b _ _ h => by omega
  refine h1 _ _ (by omega) (by omega) ?_
  have t : ∀ n r : Nat, n / 2 ^ r % 2 = 1 ↔ n.testBit r = true := fun n r => by rw [Nat.testBit_eq_decide_div_mod_eq]; simp
  rw [t, t, Nat.testBit_mod_two_pow, Nat.testBit_div_two_pow, show j % 32 + 32 * (j / 32) = j by omega]
  simp; omega
theorem bit_cond (E j : Nat) : (bits BinOp.and IntKind.i64 ((E : Int) / 4294967296 ^ (j / 32) % 4294967296 / 2 ^ (j % 32)) 1 == 1) = decide (E / 2 ^ j % 2 = 1) := by
  have e : (E : Int) / 4294967296 ^ (j / 32) % 4294967296 / 2 ^ (j % 32) = ((E / 4294967296 ^ (j / 32) % 4294967296 / 2 ^ (j % 32) : Nat) : Int) := by simp only [Int.natCast_ediv, Int.natCast_emod, Int.natCast_pow]; rfl
  rw [e, and_one, bit_nat]
  by_cases h : E / 2 ^ j % 2 = 1
  · rw [h]; rfl
  · rw [show E / 2 ^ j % 2 = 0 by omega]; rfl
theorem fpow_half (x : Fp) (E j : Nat) : fpow x (E / 2 ^ j) = if E / 2 ^ j % 2 = 1 then fpow x (E / 2 ^ (j + 1)) * fpow x (E / 2 ^ (j + 1)) * x else fpow x (E / 2 ^ (j + 1)) * fpow x (E / 2 ^ (j + 1)) := by
  have h : E / 2 ^ (j + 1) = E / 2 ^ j / 2 := by rw [Nat.pow_succ, Nat.div_div_eq_div_mul]
  rw [h]
  generalize E / 2 ^ j = m
  by_cases hb : m % 2 = 1
  · rw [if_pos hb, ← fpow_add, ← fpow_succ]; congr 1; omega
  · rw [if_neg hb, ← fpow_add]; congr 1; omega
set_option maxHeartbeats 1000000 in
set_option maxRecDepth 100000 in
theorem Power_row (x : Fp) (E : Nat) (hE : (E : Int) < R256) (w : World) : Calls Try.prog 20 #[.agg (ec (x.val : Int)), .agg (ec (E : Int))] w fun e w' => e = .returned (.agg (ec ((fpow x E : Fp).val : Int))) ∧ Ext w w' := by
  have H1 := ec_lit1
  have H0 := ec_lit0
  have HS := Lib.hid (fun w => (by have h := Small_any 1 w; rw [← H1] at h; exact h : Calls Try.prog 11 #[.int .i64 1] w fun e w' => e = .returned (.agg (ec 1)) ∧ Ext w w'))
  have HH := Lib.hid (And.intro H0 hE)
  clear H1 H0 hE
  go_enter Try.func20, Try.ntmps20
  go_wp2_with (first | (refine wpList_store_row rfl 26 _ _ rfl _ _ rfl rfl _ _ (by (first | with_reducible assumption | (simp only [heap_at, heap_past, heap_ext, heap_drewN', setRow_size, setRow_heap, size_alloc, size_drewN', size_ext, ltA0, eqA0, qeA0, ltA1, eqA1, qeA1, ltA2, eqA2, qeA2, ltA3, eqA3, qeA3, ltA4, eqA4, qeA4, ltA5, eqA5, qeA5, ltA6, eqA6, qeA6, ltA7, eqA7, qeA7, ltA8, eqA8, qeA8]; with_reducible rfl))) (inE _) (by rw [ec_size]; rfl) (ec_one _) ?_; (try simp only [setRow_drewN, setRow_drew, setRow_alloc_at, setRow_alloc_past, setRow_ext, size_alloc, size_drewN', size_ext, ltA0, ltA1, ltA2, ltA3, ltA4, ltA5, ltA6, ltA7, ltA8])) | (refine wpList_load_row rfl 26 _ rfl _ rfl _ _ _ _ (by (first | with_reducible assumption | (simp only [heap_at, heap_past, heap_ext, heap_drewN', setRow_size, setRow_heap, size_alloc, size_drewN', size_ext, ltA0, eqA0, qeA0, ltA1, eqA1, qeA1, ltA2, eqA2, qeA2, ltA3, eqA3, qeA3, ltA4, eqA4, qeA4, ltA5, eqA5, qeA5, ltA6, eqA6, qeA6, ltA7, eqA7, qeA7, ltA8, eqA8, qeA8]; with_reducible rfl))) Try.underlying26 rfl (inE _) ?_) | (go_at_call 11; go_must (refine (HS.out _).mono ?_); rintro e w' ⟨rfl, gg, rfl⟩))
  have hP : PwS w ((ext (((w.alloc (.cells (ec ↑↑x) 26)).alloc (.cells (ec ↑E) 26)).alloc (.cells (ec 0) 26)) gg).alloc (.cells (ec 1) 26)) (w.heap.size + 1 + 1 + 1 + gg.os.length) (x.val : Int) (E : Int) 1 := by
    refine ⟨((((Ext.al _ _).trans (Ext.al _ _)).trans (Ext.al _ _)).trans ⟨_, rfl⟩).trans (Ext.al _ _), by omega, ?_, ?_, ?_, ?_⟩ <;> (simp only [heap_at, heap_past, heap_ext, heap_drewN', setRow_size, setRow_heap, size_alloc, size_drewN', size_ext, ltA0, eqA0, qeA0, ltA1, eqA1, qeA1, ltA2, eqA2, qeA2, ltA3, eqA3, qeA3, ltA4, eqA4, qeA4, ltA5, eqA5, qeA5, ltA6, eqA6, qeA6, ltA7, eqA7, qeA7, ltA8, eqA8, qeA8]; try rfl)
  rw [HH.out.1] at hP
  have HP := Lib.hid hP
  clear hP
  obtain ⟨m, hm⟩ : ∃ m, m = w.heap.size + 1 + 1 + 1 + gg.os.length := ⟨_, rfl⟩
  simp only [← hm] at HP ⊢
  clear hm
  go_loopw [6] (fun i wr => (∃ j : Nat, j < 256 ∧ i = .int .i64 j ∧ Hid (PwS w wr m (x.val : Int) (E : Int) ((fpow x (E / 2 ^ (j + 1))).val : Int))) ∨ (i = .int .i64 (-1) ∧ Hid (PwS w wr m (x.val : Int) (E : Int) ((fpow x E).val : Int)))) (fun i _ => (intOf i + 1).toNat)
  case atStart =>
    refine .inl ⟨255, by omega, rfl, Lib.hid ?_⟩
    rw [Nat.div_eq_of_lt (by have := HH.out.2; simp only [R256] at this; omega), fpow_zero, val_one']
    exact HP.out
  case round =>
    rcases hrel with ⟨j, hj, rfl, HR⟩ | ⟨rfl, HR⟩
    · have c1 := HR.out.o
      have HF := Lib.hid (fpow_half x E j)
      have HB := Lib.hid (bit_cond E j)
      by_cases hb : E / 2 ^ j % 2 = 1
      · have hbc : (bits BinOp.and IntKind.i64 ((E : Int) / 4294967296 ^ (j / 32) % 4294967296 / 2 ^ (j % 32)) 1 == 1) = true := by rw [HB.out]; simpa using hb
        have HF2 := Lib.hid (show fpow x (E / 2 ^ j) = fpow x (E / 2 ^ (j + 1)) * fpow x (E / 2 ^ (j + 1)) * x by have := HF.out; rwa [if_pos hb] at this)
        clear hb HF
        obtain ⟨O, hO⟩ : ∃ O, O = fpow x (E / 2 ^ (j + 1)) := ⟨_, rfl⟩
        rw [← hO] at c1 HF2
        have HO := Lib.hid hO
        have HR2 := Lib.hid (show PwS w wr m (x.val : Int) (E : Int) (O.val : Int) by rw [hO]; exact HR.out)
        clear HR hO
        go_wp2_with (first | (refine wpList_store_row rfl 26 _ _ rfl _ _ rfl rfl _ _ (by (first | assumption | exact c4 _ | exact c5 _ | (simp only [heap_at, heap_past, heap_ext, heap_drewN', setRow_size, setRow_heap, size_alloc, size_drewN', size_ext, ltA0, eqA0, qeA0, ltA1, eqA1, qeA1, ltA2, eqA2, qeA2, ltA3, eqA3, qeA3, ltA4, eqA4, qeA4, ltA5, eqA5, qeA5, ltA6, eqA6, qeA6, ltA7, eqA7, qeA7, ltA8, eqA8, qeA8]; with_reducible rfl))) (inE _) (by rw [ec_size, ec_size]) (ec_one _) ?_) | (refine wpList_load_row rfl 26 _ rfl _ rfl _ _ _ _ (by (first | assumption | exact c4 _ | exact c5 _ | (simp only [heap_at, heap_past, heap_ext, heap_drewN', setRow_size, setRow_heap, size_alloc, size_drewN', size_ext, ltA0, eqA0, qeA0, ltA1, eqA1, qeA1, ltA2, eqA2, qeA2, ltA3, eqA3, qeA3, ltA4, eqA4, qeA4, ltA5, eqA5, qeA5, ltA6, eqA6, qeA6, ltA7, eqA7, qeA7, ltA8, eqA8, qeA8]; with_reducible rfl))) Try.underlying26 rfl (inE _) ?_) | (go_at_call 13; first
          | (have c4' := c4; go_must (refine (Times_row (O * O) x _).mono ?_); rintro e w2 ⟨rfl, hE2⟩; have c6 := ext_heap hE2 (c4 _))
          | (go_must (refine (Times_row O O wr).mono ?_); rintro e w1 ⟨rfl, hE1⟩; have c2 := ext_heap hE1 HR2.out.o; have c3 : ∀ o', (w1.setRow m (ec o')).cell? ⟨w.heap.size + 1, j / 32, none⟩ = _ := fun o' => cell_ec (HR2.out.step hE1 o').e (j / 32) (by omega); have c4 := fun o' => (HR2.out.step hE1 o').o; have c5 := fun o' => (HR2.out.step hE1 o').a)))
        have hfin := (HR2.out.step hE1 ((O * O : Fp).val : Int)).step hE2 ((O * O * x : Fp).val : Int)
        rw [← HF2.out] at hfin ⊢
        have HFIN := Lib.hid hfin
        clear hfin
        refine ⟨?_, by simp [intOf]⟩
        cases j with
        | zero => exact .inr ⟨rfl, Lib.hid (by have h := HFIN.out; rw [Nat.pow_zero, Nat.div_one] at h ⊢; exact h)⟩
        | succ j' => exact .inl ⟨j', by omega, by congr 1; omega, Lib.hid HFIN.out⟩
      · have hbc : (bits BinOp.and IntKind.i64 ((E : Int) / 4294967296 ^ (j / 32) % 4294967296 / 2 ^ (j % 32)) 1 == 1) = false := by rw [HB.out]; simpa using hb
        have HF2 := Lib.hid (show fpow x (E / 2 ^ j) = fpow x (E / 2 ^ (j + 1)) * fpow x (E / 2 ^ (j + 1)) by have := HF.out; rwa [if_neg hb] at this)
        clear hb HF
        obtain ⟨O, hO⟩ : ∃ O, O = fpow x (E / 2 ^ (j + 1)) := ⟨_, rfl⟩
        rw [← hO] at c1 HF2
        have HO := Lib.hid hO
        have HR2 := Lib.hid (show PwS w wr m (x.val : Int) (E : Int) (O.val : Int) by rw [hO]; exact HR.out)
        clear HR hO
        go_wp2_with (first | (refine wpList_store_row rfl 26 _ _ rfl _ _ rfl rfl _ _ (by (first | assumption | exact c4 _ | exact c5 _ | (simp only [heap_at, heap_past, heap_ext, heap_drewN', setRow_size, setRow_heap, size_alloc, size_drewN', size_ext, ltA0, eqA0, qeA0, ltA1, eqA1, qeA1, ltA2, eqA2, qeA2, ltA3, eqA3, qeA3, ltA4, eqA4, qeA4, ltA5, eqA5, qeA5, ltA6, eqA6, qeA6, ltA7, eqA7, qeA7, ltA8, eqA8, qeA8]; with_reducible rfl))) (inE _) (by rw [ec_size, ec_size]) (ec_one _) ?_) | (refine wpList_load_row rfl 26 _ rfl _ rfl _ _ _ _ (by (first | assumption | exact c4 _ | exact c5 _ | (simp only [heap_at, heap_past, heap_ext, heap_drewN', setRow_size, setRow_heap, size_alloc, size_drewN', size_ext, ltA0, eqA0, qeA0, ltA1, eqA1, qeA1, ltA2, eqA2, qeA2, ltA3, eqA3, qeA3, ltA4, eqA4, qeA4, ltA5, eqA5, qeA5, ltA6, eqA6, qeA6, ltA7, eqA7, qeA7, ltA8, eqA8, qeA8]; with_reducible rfl))) Try.underlying26 rfl (inE _) ?_) | (go_at_call 13; (go_must (refine (Times_row O O wr).mono ?_); rintro e w1 ⟨rfl, hE1⟩; have c2 := ext_heap hE1 HR2.out.o; have c3 : ∀ o', (w1.setRow m (ec o')).cell? ⟨w.heap.size + 1, j / 32, none⟩ = _ := fun o' => cell_ec (HR2.out.step hE1 o').e (j / 32) (by omega); have c4 := fun o' => (HR2.out.step hE1 o').o; have c5 := fun o' => (HR2.out.step hE1 o').a)))
        have hfin := HR2.out.step hE1 ((O * O : Fp).val : Int)
        rw [← HF2.out] at hfin ⊢
        have HFIN := Lib.hid hfin
        clear hfin
        refine ⟨?_, by simp [intOf]⟩
        cases j with
        | zero => exact .inr ⟨rfl, Lib.hid (by have h := HFIN.out; rw [Nat.pow_zero, Nat.div_one] at h ⊢; exact h)⟩
        | succ j' => exact .inl ⟨j', by omega, by congr 1; omega, Lib.hid HFIN.out⟩
    · have c1 := HR.out.o
      have c2 := HR.out.r
      go_wp2_with (first | (refine wpList_store_row rfl 26 _ _ rfl _ _ rfl rfl _ _ (by (first | assumption | exact c4 _ | exact c5 _ | (simp only [heap_at, heap_past, heap_ext, heap_drewN', setRow_size, setRow_heap, size_alloc, size_drewN', size_ext, ltA0, eqA0, qeA0, ltA1, eqA1, qeA1, ltA2, eqA2, qeA2, ltA3, eqA3, qeA3, ltA4, eqA4, qeA4, ltA5, eqA5, qeA5, ltA6, eqA6, qeA6, ltA7, eqA7, qeA7, ltA8, eqA8, qeA8]; with_reducible rfl))) (inE _) (by rw [ec_size, ec_size]) (ec_one _) ?_) | (refine wpList_load_row rfl 26 _ rfl _ rfl _ _ _ _ (by (first | assumption | exact c4 _ | exact c5 _ | (simp only [heap_at, heap_past, heap_ext, heap_drewN', setRow_size, setRow_heap, size_alloc, size_drewN', size_ext, ltA0, eqA0, qeA0, ltA1, eqA1, qeA1, ltA2, eqA2, qeA2, ltA3, eqA3, qeA3, ltA4, eqA4, qeA4, ltA5, eqA5, qeA5, ltA6, eqA6, qeA6, ltA7, eqA7, qeA7, ltA8, eqA8, qeA8]; with_reducible rfl))) Try.underlying26 rfl (inE _) ?_))
      refine bodyPost_ret (results_cell_row rfl _ _ _ 26 _ (0, 0) _ rfl (setRow_heap _ _ _ _ _ _ c2) Try.underlying26 rfl (inE _)) rfl ⟨rfl, ?_⟩
      exact HR.out.ext.setRow (by omega) _
end Go.Proofs.Ytgdjmgcolipcnaa
