/-
  What is proved here: what making an element of 32 bytes returns, and what the doors on elements return.
  Conditions: those of each theorem.
-/
import Derived.Test.YtgdjmgcolipcnaaProg
import Derived.Test.YtgdjmgcolipcnaaPts
import Derived.Test.YtgdjmgcolipcnaaByuSet
import Derived.Test.YtgdjmgcolipcnaaSpecISpecJ
import Derived.Test.YtgdjmgcolipcnaaClonePrjA
import Derived.Test.YtgdjmgcolipcnaaArrEq
import Derived.WalkKit
import Derived.WalkSpells
import Derived.Outline
import Derived.Handy
import Derived.ProofKit
import Derived.Deep.QuietTactic
import Derived.BigQuiet
import Derived.Lib.Hide
import Derived.OpenShut
namespace Go.Proofs.Ytgdjmgcolipcnaa
open Go Go.RowKit Ecp
set_option linter.unusedSimpArgs false
set_option linter.unusedVariables false

theorem held_bc {w : World} {b : Nat} {S : Int} {t : TypeId} {fr : Nat × Nat} (h : w.heap[b]? = some (.cells (bc S) t fr)) : Held .u8 w b 0 (bds 32 S).reverse := by
  rw [bc_def] at h
  exact Held.row t fr h
theorem zeroB : ∀ w, (zeroValue 22).run Try.prog w = .ok (.agg (bc 0)) w := by
  rw [bc_def]
  exact (zero_of_info (P := Try.prog) (n := 32) (by kernel_rfl)).1
theorem builtB0 : Try.prog.built 22 [] = some (bc 0) := by
  rw [bc_def]
  kernel_rfl
theorem bdsr_len (S : Int) : (bds 32 S).reverse.length = 32 := rev_len S
theorem eqlB (a b : Int) (w : World) : (binOp .eql 22 (.agg (bc a)) (.agg (bc b))).run Try.prog w = .ok (.bool (decide ((bds 32 a).reverse = (bds 32 b).reverse))) w := by
  rw [bc_def, bc_def]
  exact run_eql_ints (P := Try.prog) w 22 5 32 .u8 Try.underlying22 Try.underlying5 (fun w => by simp [go_sem]) _ _ (rev_len _) (rev_len _)
theorem eqlEE (a : Int) (w : World) : (binOp .eql 26 (.agg (ec a)) (.agg (ec a))).run Try.prog w = .ok (.bool true) w := by
  rw [eqlE, decide_eq_true rfl]
theorem eqlBB (a : Int) (w : World) : (binOp .eql 22 (.agg (bc a)) (.agg (bc a))).run Try.prog w = .ok (.bool true) w := by
  rw [eqlB, decide_eq_true rfl]
theorem quiet_eqlE {o : Oper} {a : Act} {C : World → Prop} {K : Act → Prop} (x y : Operand) (ho : o.op = .binOp .eql 26 x y 26) (S T : Int) (b : Bool) (hx : a.eval x = .agg (ec S)) (hy : a.eval y = .agg (ec T)) (hb : decide (digs 8 S = digs 8 T) = b) (h : K (a.put o.dst (.bool b))) : o.quiet Try.prog a C K :=
  ⟨.bool b, fun w hw => by
    unfold Oper.quietAt execOp
    simp only [ho, hx, hy, Sem.run_bind, run_eqGuard_agg w .eql _ x y (ec S) (ec T) (by rw [Try.eqGuardType26]), Result.andThen_ok, Sem.run_map, eqlE, hb]
    exact ⟨rfl, rfl⟩, h⟩
theorem quiet_eqlB {o : Oper} {a : Act} {C : World → Prop} {K : Act → Prop} (x y : Operand) (ho : o.op = .binOp .eql 22 x y 22) (S : Int) (hx : a.eval x = .agg (bc S)) (hy : a.eval y = .agg (bc S)) (h : K (a.put o.dst (.bool true))) : o.quiet Try.prog a C K :=
  ⟨.bool true, fun w hw => by
    unfold Oper.quietAt execOp
    simp only [ho, hx, hy, Sem.run_bind, run_eqGuard_agg w .eql _ x y (bc S) (bc S) (by rw [Try.eqGuardType22]), Result.andThen_ok, Sem.run_map, eqlBB]
    exact ⟨rfl, rfl⟩, h⟩
theorem g_poly' {n : Nat} [NeZero n] (x b : Fin n) : x * x * x - (x + x + x) + b = x * x * x - 3 * x + b := by grind -lia
theorem g_p0' {n : Nat} [NeZero n] (b : Fin n) : 0 * 0 * 0 - (0 + 0 + 0) + b = b := by grind -lia
theorem g_p0 : (0 * 0 * 0 - (0 + 0 + 0) + cB : Fp) = cB := g_p0' cB
section
variable {P : Program} {ops : Array Oper} {rest : List Oper} {o : Oper} {a : Act} {w : World} {Q : Exit → Act → World → Prop}
theorem wpList_s2apW (hw : Region.wanted o (yielded ops a.tmps) = true) (arr : TypeId) (x : Operand) (ho : o.op = .sliceToArrayPointer arr x) (g n cap : Nat) (e : TypeId) (hu : P.underlying arr = some (.array n e)) (hx : a.eval x = .slice (some ⟨g, 0, none⟩) n cap)
    (h : wpList P ops Q rest (a.put o.dst (.pointer (some ⟨g, 0, none⟩))) w) : wpList P ops Q (o :: rest) a w :=
  wpList_want hw fun K hK => by
    unfold Oper.wp execOp
    simp only [ho, hx, Instr.arrayAt, Sem.run_bind, run_underlying hu, Result.andThen_ok]
    simp [go_sem]
    exact hK _ _ h
theorem range_bc {w : World} {g off : Nat} {S : Int} (hb : Held .u8 w g off (bds 32 S).reverse) : w.rangeAt g off (bc S).toList := fun j v hv => by
  rw [Array.getElem?_toList] at hv
  have hj : j < 32 := by
    have := (Array.getElem?_eq_some_iff.1 hv).1
    rwa [bc_size] at this
  rw [bc_at S j hj] at hv
  rw [← hv]
  have hl : j < (bds 32 S).reverse.length := by rw [rev_len]; exact hj
  exact hb j _ (getD_in' hl)
theorem wpList_load_bcW (hw : Region.wanted o (yielded ops a.tmps) = true) (ty : TypeId) (x : Operand) (ho : o.op = .load ty x) (g : Nat) (hx : a.eval x = .pointer (some ⟨g, 0, none⟩)) (S : Int) (hb : Held .u8 w g 0 (bds 32 S).reverse) (d : TypeDesc)
    (hu : P.underlying ty = some d) (hd : d.isRow = true) (hi : (P.info? ty).map (·.size) = some (bc S).size) (h : wpList P ops Q rest (a.put o.dst (.agg (bc S))) w) : wpList P ops Q (o :: rest) a w :=
  wpList_want hw fun K hK => wp_load_mid ty x ho g 0 hx (bc S).toList d (range_bc hb) hu hd (by rw [hi, Array.length_toList]) (by rw [Array.toArray_toList]; exact hK _ _ h)
end
theorem SetB_any (x : Fp) (b o c p k : Nat) (w : World) (hb : b < w.heap.size) (hc : c < w.heap.size) (hf : Free w b o 4) (h : Held .u8 w c p (bds 32 (x.val : Int)).reverse) :
    Calls Try.prog 40 #[.pointer (some ⟨b, o, none⟩), .slice (some ⟨c, p, none⟩) 32 k] w fun e w' => e = .returned (.tuple #[.pointer (some ⟨b, o, none⟩), .nilIface]) ∧ Turned b o 4 w w' ∧ Elt w' b o x := by
  have e : be (bds 32 (x.val : Int)).reverse = (x.val : Int) := be_bc (fv_bd x).1 (fv_bd x).2
  have := SetBytes_pre b o c p k _ (rev_len _) (rev_bd _) (by rw [e]; exact fv_lt x) w hb hc hf h
  rw [e, zf_nat] at this
  exact this
theorem SetBad_any (X : Int) (h0 : 0 ≤ X) (h1 : X < R256) (hp : ¬ X < pI) (b o c p k : Nat) (w : World) (hb : b < w.heap.size) (hc : c < w.heap.size) (hf : Free w b o 4) (h : Held .u8 w c p (bds 32 X).reverse) :
    Calls Try.prog 40 #[.pointer (some ⟨b, o, none⟩), .slice (some ⟨c, p, none⟩) 32 k] w fun e w' => (∃ t u, e = .returned (.tuple #[.pointer none, .iface t u])) ∧ Ext w w' :=
  SetBytes_bad b o c p k _ (rev_len _) (rev_bd _) (by rw [be_bc h0 h1]; exact hp) w hb hc hf h
end Go.Proofs.Ytgdjmgcolipcnaa
