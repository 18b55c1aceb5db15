/-
  What is proved here: what making an element of 32 bytes returns, and what the doors on elements return.
  Conditions: those of each theorem.
-/
import Derived.Test.YtbdmicmohopmaaaProg
import Derived.Test.YtbdmicmohopmaaaPts
import Derived.Test.YtbdmicmohopmaaaByuSet
import Derived.Test.YtbdmicmohopmaaaSpecISpecJ
import Derived.Test.YtbdmicmohopmaaaClonePrjA
import Derived.Test.YtbdmicmohopmaaaArrEq
import Derived.WalkKit
import Derived.WalkSpells
import Derived.Outline
import Derived.Handy
import Derived.ProofKit
import Derived.Deep.QuietTactic
import Derived.BigQuiet
import Derived.Lib.Hide
import Derived.OpenShut
namespace Go.Proofs.Ytbdmicmohopmaaa
open Go Go.RowKit Ecp
set_option linter.unusedSimpArgs false
set_option linter.unusedVariables false

theorem held_bc {w : World} {b : Nat} {S : Int} {t : TypeId} {fr : Nat × Nat} (h : w.heap[b]? = some (.cells (bc S) t fr)) : Held .u8 w b 0 (bds 32 S).reverse := by
  rw [bc_def] at h
  exact Held.row t fr h
theorem zeroB : ∀ w, (zeroValue 22).run Try.prog w = .ok (.agg (bc 0)) w := by
  rw [bc_def]
  exact (zero_of_info (P := Try.prog) (n := 32) (by kernel_rfl)).1
theorem builtB0 : Try.prog.built 22 [] = some (bc 0) := by
  rw [bc_def]
  kernel_rfl
theorem bdsr_len (S : Int) : (bds 32 S).reverse.length = 32 := rev_len S
theorem eqlB (a b : Int) (w : World) : (binOp .eql 22 (.agg (bc a)) (.agg (bc b))).run Try.prog w = .ok (.bool (decide ((bds 32 a).reverse = (bds 32 b).reverse))) w := by
  rw [bc_def, bc_def]
  exact run_eql_ints (P := Try.prog) w 22 5 32 .u8 Try.underlying22 Try.underlying5 (fun w => by simp [go_sem]) _ _ (rev_len _) (rev_len _)
theorem eqlEE (a : Int) (w : World) : (binOp .eql 24 (.agg (ec a)) (.agg (ec a))).run Try.prog w = .ok (.bool true) w := by
  rw [eqlE, decide_eq_true rfl]
theorem eqlBB (a : Int) (w : World) : (binOp .eql 22 (.agg (bc a)) (.agg (bc a))).run Try.prog w = .ok (.bool true) w := by
  rw [eqlB, decide_eq_true rfl]
theorem quiet_eqlE {o : Oper} {a : Act} {C : World → Prop} {K : Act → Prop} (x y : Operand) (ho : o.op = .binOp .eql 24 x y 24) (S T : Int) (b : Bool) (hx : a.eval x = .agg (ec S)) (hy : a.eval y = .agg (ec T)) (hb : decide (digs 8 S = digs 8 T) = b) (h : K (a.put o.dst (.bool b))) : o.quiet Try.prog a C K :=
  ⟨.bool b, fun w hw => by
    unfold Oper.quietAt execOp
    simp only [ho, hx, hy, Sem.run_bind, run_eqGuard_agg w .eql _ x y (ec S) (ec T) (by rw [Try.eqGuardType24]), Result.andThen_ok, Sem.run_map, eqlE, hb]
    exact ⟨rfl, rfl⟩, h⟩
theorem quiet_eqlB {o : Oper} {a : Act} {C : World → Prop} {K : Act → Prop} (x y : Operand) (ho : o.op = .binOp .eql 22 x y 22) (S : Int) (hx : a.eval x = .agg (bc S)) (hy : a.eval y = .agg (bc S)) (h : K (a.put o.dst (.bool true))) : o.quiet Try.prog a C K :=
  ⟨.bool true, fun w hw => by
    unfold Oper.quietAt execOp
    simp only [ho, hx, hy, Sem.run_bind, run_eqGuard_agg w .eql _ x y (bc S) (bc S) (by rw [Try.eqGuardType22]), Result.andThen_ok, Sem.run_map, eqlBB]
    exact ⟨rfl, rfl⟩, h⟩
theorem g_poly' {n : Nat} [NeZero n] (x b : Fin n) : x * x * x - (x + x + x) + b = x * x * x - 3 * x + b := by grind -lia
theorem g_p0' {n : Nat} [NeZero n] (b : Fin n) : 0 * 0 * 0 - (0 + 0 + 0) + b = b := by grind -lia
theorem g_p0 : (0 * 0 * 0 - (0 + 0 + 0) + cB : Fp) = cB := g_p0' cB
section
variable {P : Program} {ops : Array Oper} {rest : List Oper} {o : Oper} {a : Act} {w : World} {Q : Exit → Act → World → Prop}
theorem wpList_s2apW (hw : Region.wanted o (yielded ops a.tmps) = true) (arr : TypeId) (x : Operand) (ho : o.op = .sliceToArrayPointer arr x) (g n cap : Nat) (e : TypeId) (hu : P.underlying arr = some (.array n e)) (hx : a.eval x = .slice (some ⟨g, 0, none⟩) n cap)
    (h : wpList P ops Q rest (a.put o.dst (.pointer (some ⟨g, 0, none⟩))) w) : wpList P ops Q (o :: rest) a w :=
  wpList_want hw fun K hK => by
    unfold Oper.wp execOp
    simp only [ho, hx, Instr.arrayAt, Sem.run_bind, run_underlying hu, Result.andThen_ok]
    simp [go_sem]
    exact hK _ _ h
theorem range_bc {w : World} {g off : Nat} {S : Int} (hb : Held .u8 w g off (bds 32 S).reverse) : w.rangeAt g off (bc S).toList := fun j v hv => by
  rw [Array.getElem?_toList] at hv
  have hj : j < 32 := by
    have := (Array.getElem?_eq_some_iff.1 hv).1
    rwa [bc_size] at this
  rw [bc_at S j hj] at hv
  rw [← hv]
  have hl : j < (bds 32 S).reverse.length := by rw [rev_len]; exact hj
  exact hb j _ (getD_in' hl)
theorem wpList_load_bcW (hw : Region.wanted o (yielded ops a.tmps) = true) (ty : TypeId) (x : Operand) (ho : o.op = .load ty x) (g : Nat) (hx : a.eval x = .pointer (some ⟨g, 0, none⟩)) (S : Int) (hb : Held .u8 w g 0 (bds 32 S).reverse) (d : TypeDesc)
    (hu : P.underlying ty = some d) (hd : d.isRow = true) (hi : (P.info? ty).map (·.size) = some (bc S).size) (h : wpList P ops Q rest (a.put o.dst (.agg (bc S))) w) : wpList P ops Q (o :: rest) a w :=
  wpList_want hw fun K hK => wp_load_mid ty x ho g 0 hx (bc S).toList d (range_bc hb) hu hd (by rw [hi, Array.length_toList]) (by rw [Array.toArray_toList]; exact hK _ _ h)
end
theorem SetB_any (x : Fp) (b o c p k : Nat) (w : World) (hb : b < w.heap.size) (hc : c < w.heap.size) (hf : Free w b o 4) (h : Held .u8 w c p (bds 32 (x.val : Int)).reverse) :
    Calls Try.prog 55 #[.pointer (some ⟨b, o, none⟩), .slice (some ⟨c, p, none⟩) 32 k] w fun e w' => e = .returned (.tuple #[.pointer (some ⟨b, o, none⟩), .nilIface]) ∧ Turned b o 4 w w' ∧ Elt w' b o x := by
  have e : be (bds 32 (x.val : Int)).reverse = (x.val : Int) := be_bc (fv_bd x).1 (fv_bd x).2
  have := SetBytes_pre b o c p k _ (rev_len _) (rev_bd _) (by rw [e]; exact fv_lt x) w hb hc hf h
  rw [e, zf_nat] at this
  exact this
theorem SetBad_any (X : Int) (h0 : 0 ≤ X) (h1 : X < R256) (hp : ¬ X < pI) (b o c p k : Nat) (w : World) (hb : b < w.heap.size) (hc : c < w.heap.size) (hf : Free w b o 4) (h : Held .u8 w c p (bds 32 X).reverse) :
    Calls Try.prog 55 #[.pointer (some ⟨b, o, none⟩), .slice (some ⟨c, p, none⟩) 32 k] w fun e w' => (∃ t u, e = .returned (.tuple #[.pointer none, .iface t u])) ∧ Ext w w' :=
  SetBytes_bad b o c p k _ (rev_len _) (rev_bd _) (by rw [be_bc h0 h1]; exact hp) w hb hc hf h
set_option maxHeartbeats 1000000 in
set_option maxRecDepth 100000 in
theorem element_good (x : Fp) (w : World) : Calls Try.prog 35 #[.agg (bc (x.val : Int))] w fun e w' => ∃ b, e = .returned (.tuple #[.pointer (some ⟨b, 0, none⟩), .bool true]) ∧ w.heap.size ≤ b ∧ b < w'.heap.size ∧ Ext w w' ∧ Free w' b 0 4 ∧ Elt w' b 0 x := by
  go_enter Try.func35, Try.ntmps35
  go_wp2_with (first
    | (go_at_call 55; go_must (refine (SetB_any x (w.heap.size + 1) 0 w.heap.size 0 32 ((w.alloc (.cells (bc (x.val : Int)) 22)).alloc (.cells #[.int .u64 0, .int .u64 0, .int .u64 0, .int .u64 0] 95)) (by simp [size_alloc] <;> omega) (by simp [size_alloc] <;> omega) (Free.newWords (by simp [size_alloc]) rfl) (Held.alloc (held_bc (heap_at _ _ _ rfl)) (by simp [size_alloc]) _)).mono ?_); rintro e w1 ⟨rfl, hT, hE⟩; have hf : Free w1 (w.heap.size + 1) 0 4 := Free.turned (Free.newWords (len := 4) (by simp [size_alloc]) rfl) hT hE (by simp [size_alloc]); have hl := hT.lt (c := w.heap.size + 1) (by simp [size_alloc]); have hx : Ext w w1 := Turned.ext_of_new ((Ext.al w _).trans (Ext.al _ _)) hT (Nat.le_succ _); have H1 := Lib.hid (And.intro hx (And.intro hl (And.intro hf hE))); clear hT hE hf hl hx)
    | (first
      | (refine wp_grow (l := [_, _, _, _, _]) (by kernel_rfl) (by kernel_rfl) ?_; (try simp only [act_put_none]); (repeat (first | go_big_quiet_skip | (go_big_quiet_want; go_big_quiet_op; first | go_big_quiet_on))); refine wpQuiet_nil ?_; intro _ hw'; obtain ⟨g', hw''⟩ := hw'; subst hw'')))
  exact bodyPost_ret (v := .tuple #[.pointer (some ⟨w.heap.size + 1, 0, none⟩), .bool true]) (by simp [results, Try.results35, go_sem]) rfl ⟨_, rfl, Nat.le_succ _, (Ext.gr _ _).lt H1.out.2.1, H1.out.1.trans (Ext.gr _ _), (Ext.gr _ _).free H1.out.2.1 H1.out.2.2.1, (Ext.gr _ _).elt H1.out.2.1 H1.out.2.2.2⟩
set_option maxHeartbeats 1000000 in
set_option maxRecDepth 100000 in
theorem element_bad (X : Int) (h0 : 0 ≤ X) (h1 : X < R256) (hp : ¬ X < pI) (w : World) : Calls Try.prog 35 #[.agg (bc X)] w fun e w' => e = .returned (.tuple #[.pointer none, .bool false]) ∧ Ext w w' := by
  have HS := Lib.hid (SetBad_any X h0 h1 hp)
  clear h0 h1 hp
  go_enter Try.func35, Try.ntmps35
  go_wp2_with (first
    | (go_at_call 55; go_must (refine (HS.out (w.heap.size + 1) 0 w.heap.size 0 32 ((w.alloc (.cells (bc X) 22)).alloc (.cells #[.int .u64 0, .int .u64 0, .int .u64 0, .int .u64 0] 95)) (by simp [size_alloc] <;> omega) (by simp [size_alloc] <;> omega) (Free.newWords (by simp [size_alloc]) rfl) (Held.alloc (held_bc (heap_at _ _ _ rfl)) (by simp [size_alloc]) _)).mono ?_); rintro e w1 ⟨⟨t, u, rfl⟩, hE⟩; have H1 := Lib.hid hE; clear hE)
    | (first
      | (refine wp_grow (l := [_, _, _, _, _]) (by kernel_rfl) (by kernel_rfl) ?_; (try simp only [act_put_none]); (repeat (first | go_big_quiet_skip | (go_big_quiet_want; go_big_quiet_op; first | go_big_quiet_on))); refine wpQuiet_nil ?_; intro _ hw'; obtain ⟨g', hw''⟩ := hw'; subst hw'')))
  exact bodyPost_ret (v := .tuple #[.pointer none, .bool false]) (by simp [results, Try.results35, go_sem]) rfl ⟨rfl, (((Ext.al w _).trans (Ext.al _ _)).trans H1.out).trans (Ext.gr _ _)⟩
set_option maxHeartbeats 1000000 in
set_option maxRecDepth 100000 in
theorem lawElement_any (X : Int) (h0 : 0 ≤ X) (h1 : X < R256) (w : World) : Calls Try.prog 11 #[.agg (bc X)] w fun e w' => e = .returned (.tuple #[.agg (ec X), .bool (decide (X < pI))]) ∧ Ext w w' := by
  have HO := Lib.hid (Of_row X h0 h1)
  have HB := Lib.hid (Below_row X pI h0 h1 (by decide) pI_lt)
  clear h0 h1
  go_enter Try.func11, Try.ntmps11
  go_wp2_with (first
    | (first
      | (refine wpList_load_rowW rfl 22 _ rfl _ rfl _ _ _ _ (by (with_reducible first | assumption | (simp only [hsA, setRow_heap]; first | done | rfl) | (repeat (first | assumption | (refine heap_at _ _ _ ?_; simp only [hsA, setRow_heap]; done) | refine ext_row (Ext.al _ _) ?_ | refine ext_row (Ext.gr _ _) ?_ | refine ext_row (by assumption) ?_)))) Try.underlying22 rfl (inB _) ?_)
      | (refine wpList_load_partW rfl 22 _ rfl _ _ rfl _ _ _ (by (with_reducible first | assumption | (simp only [hsA, setRow_heap]; first | done | rfl) | (repeat (first | assumption | (refine heap_at _ _ _ ?_; simp only [hsA, setRow_heap]; done) | refine ext_row (Ext.al _ _) ?_ | refine ext_row (Ext.gr _ _) ?_ | refine ext_row (by assumption) ?_)))) _ (by first | with_reducible exact pc_x _ _ _ | with_reducible exact pc_y _ _ _ | with_reducible exact tc_x _ _ _ | with_reducible exact tc_y _ _ _ | with_reducible exact tc_z _ _ _) _ Try.underlying22 rfl (inB _) ?_)
      | (refine wpList_store_rowW rfl 22 _ _ rfl _ _ rfl rfl _ _ (by (with_reducible first | assumption | (simp only [hsA, setRow_heap]; first | done | rfl) | (repeat (first | assumption | (refine heap_at _ _ _ ?_; simp only [hsA, setRow_heap]; done) | refine ext_row (Ext.al _ _) ?_ | refine ext_row (Ext.gr _ _) ?_ | refine ext_row (by assumption) ?_)))) (inB _) (by simp only [ec_size, bc_size, pc_size, tc_size, ec_size, bc_size, pc_size, tc_size]; try rfl) (bc_one _) ?_; (try simp only [nmA]))
      | (refine wpList_load_rowW rfl 24 _ rfl _ rfl _ _ _ _ (by (with_reducible first | assumption | (simp only [hsA, setRow_heap]; first | done | rfl) | (repeat (first | assumption | (refine heap_at _ _ _ ?_; simp only [hsA, setRow_heap]; done) | refine ext_row (Ext.al _ _) ?_ | refine ext_row (Ext.gr _ _) ?_ | refine ext_row (by assumption) ?_)))) Try.underlying24 rfl (inE _) ?_)
      | (refine wpList_load_partW rfl 24 _ rfl _ _ rfl _ _ _ (by (with_reducible first | assumption | (simp only [hsA, setRow_heap]; first | done | rfl) | (repeat (first | assumption | (refine heap_at _ _ _ ?_; simp only [hsA, setRow_heap]; done) | refine ext_row (Ext.al _ _) ?_ | refine ext_row (Ext.gr _ _) ?_ | refine ext_row (by assumption) ?_)))) _ (by first | with_reducible exact pc_x _ _ _ | with_reducible exact pc_y _ _ _ | with_reducible exact tc_x _ _ _ | with_reducible exact tc_y _ _ _ | with_reducible exact tc_z _ _ _) _ Try.underlying24 rfl (inE _) ?_)
      | (refine wpList_store_rowW rfl 24 _ _ rfl _ _ rfl rfl _ _ (by (with_reducible first | assumption | (simp only [hsA, setRow_heap]; first | done | rfl) | (repeat (first | assumption | (refine heap_at _ _ _ ?_; simp only [hsA, setRow_heap]; done) | refine ext_row (Ext.al _ _) ?_ | refine ext_row (Ext.gr _ _) ?_ | refine ext_row (by assumption) ?_)))) (inE _) (by simp only [ec_size, bc_size, pc_size, tc_size, ec_size, bc_size, pc_size, tc_size]; try rfl) (ec_one _) ?_; (try simp only [nmA]))
      | (go_at_call 14; go_must (with_reducible refine (HO.out _).mono ?_); rintro e w' ⟨rfl, g1, rfl⟩)
      | (go_at_call 18; go_must (with_reducible refine (Prime_row _).mono ?_); rintro e w' ⟨rfl, g2, rfl⟩)
      | (go_at_call 17; go_must (with_reducible refine (HB.out _).mono ?_); rintro e w' ⟨rfl, g3, rfl⟩)
      | (refine wp_grow_tail (l := [_, _, _, _, _, _]) 4 (by kernel_rfl) (by kernel_rfl) ?_; simp only [List.take_succ_cons, List.take_zero, List.drop_succ_cons, List.drop_zero]; (try simp only [act_put_none]); (repeat (first | go_big_quiet_skip | (go_big_quiet_want; refine quiet_load_row 22 _ rfl _ rfl _ _ _ _ (by rintro _ ⟨g9, rfl⟩; refine ext_row ⟨g9, rfl⟩ ?_; (with_reducible first | assumption | (simp only [hsA, setRow_heap]; first | done | rfl) | (repeat (first | assumption | (refine heap_at _ _ _ ?_; simp only [hsA, setRow_heap]; done) | refine ext_row (Ext.al _ _) ?_ | refine ext_row (Ext.gr _ _) ?_ | refine ext_row (by assumption) ?_)))) Try.underlying22 rfl (inB _) ?_; go_simp; go_big_quiet_on) | (go_big_quiet_want; refine quiet_load_part 22 _ rfl _ _ rfl _ _ _ (by rintro _ ⟨g9, rfl⟩; refine ext_row ⟨g9, rfl⟩ ?_; (with_reducible first | assumption | (simp only [hsA, setRow_heap]; first | done | rfl) | (repeat (first | assumption | (refine heap_at _ _ _ ?_; simp only [hsA, setRow_heap]; done) | refine ext_row (Ext.al _ _) ?_ | refine ext_row (Ext.gr _ _) ?_ | refine ext_row (by assumption) ?_)))) _ (by first | with_reducible exact pc_x _ _ _ | with_reducible exact pc_y _ _ _ | with_reducible exact tc_x _ _ _ | with_reducible exact tc_y _ _ _ | with_reducible exact tc_z _ _ _) _ Try.underlying22 rfl (inB _) ?_; go_simp; go_big_quiet_on) | (go_big_quiet_want; refine quiet_load_row 24 _ rfl _ rfl _ _ _ _ (by rintro _ ⟨g9, rfl⟩; refine ext_row ⟨g9, rfl⟩ ?_; (with_reducible first | assumption | (simp only [hsA, setRow_heap]; first | done | rfl) | (repeat (first | assumption | (refine heap_at _ _ _ ?_; simp only [hsA, setRow_heap]; done) | refine ext_row (Ext.al _ _) ?_ | refine ext_row (Ext.gr _ _) ?_ | refine ext_row (by assumption) ?_)))) Try.underlying24 rfl (inE _) ?_; go_simp; go_big_quiet_on) | (go_big_quiet_want; refine quiet_load_part 24 _ rfl _ _ rfl _ _ _ (by rintro _ ⟨g9, rfl⟩; refine ext_row ⟨g9, rfl⟩ ?_; (with_reducible first | assumption | (simp only [hsA, setRow_heap]; first | done | rfl) | (repeat (first | assumption | (refine heap_at _ _ _ ?_; simp only [hsA, setRow_heap]; done) | refine ext_row (Ext.al _ _) ?_ | refine ext_row (Ext.gr _ _) ?_ | refine ext_row (by assumption) ?_)))) _ (by first | with_reducible exact pc_x _ _ _ | with_reducible exact pc_y _ _ _ | with_reducible exact tc_x _ _ _ | with_reducible exact tc_y _ _ _ | with_reducible exact tc_z _ _ _) _ Try.underlying24 rfl (inE _) ?_; go_simp; go_big_quiet_on) | (go_big_quiet_want; go_big_quiet_op; first | go_big_quiet_on | go_big_quiet_call (first | (go_at_call 14; with_reducible exact calls_grow (HO.out _)) | (go_at_call 18; with_reducible exact calls_grow (Prime_row _)) | (go_at_call 17; with_reducible exact calls_grow (HB.out _)))))); refine wpQuiet_nil ?_; intro _ hw'; obtain ⟨g', hw''⟩ := hw'; subst hw'')))
  refine bodyPost_ret (results_cell_tmp rfl _ _ _ 24 _ (0, 0) _ rfl _ rfl (by (with_reducible first | assumption | (simp only [hsA, setRow_heap]; first | done | rfl) | (repeat (first | assumption | (refine heap_at _ _ _ ?_; simp only [hsA, setRow_heap]; done) | refine ext_row (Ext.al _ _) ?_ | refine ext_row (Ext.gr _ _) ?_ | refine ext_row (by assumption) ?_)))) Try.underlying24 rfl (inE _)) rfl ⟨rfl, ?_⟩
  (repeat (first | exact Ext.refl _ | assumption | exact hE6 .. | refine Ext.trans ?_ (Ext.al _ _) | refine Ext.trans ?_ (Ext.gr _ _) | refine Ext.trans ?_ (by with_reducible assumption) | refine Ext.setRow ?_ (by first | omega | (simp <;> omega)) _))
set_option maxHeartbeats 1000000 in
set_option maxRecDepth 100000 in
theorem ZZPoly_any (b : Nat) (x : Fp) (w : World) (hb : b < w.heap.size) (h : Elt w b 0 x) : Calls Try.prog 47 #[.pointer (some ⟨b, 0, none⟩)] w fun e w' => e = .returned (.pointer (some ⟨w.heap.size, 0, none⟩)) ∧ w.heap.size < w'.heap.size ∧ Ext w w' ∧ Free w' w.heap.size 0 4 ∧ Elt w' w.heap.size 0 (x * x * x - (x + x + x) + cB) := by
  have H := Lib.hid (And.intro hb h)
  clear hb h
  go_enter Try.func47, Try.ntmps47
  go_wp2_with (first
    | (go_at_call 69; go_must (refine (Poly_any w.heap.size 0 b 0 x (w.alloc (.cells #[.int .u64 0, .int .u64 0, .int .u64 0, .int .u64 0] 95)) (by simp [size_alloc]) ((Ext.al _ _).lt H.out.1) (Free.newWords (cs := #[.int .u64 0, .int .u64 0, .int .u64 0, .int .u64 0]) rfl rfl) (H.out.2.alloc H.out.1 _) (apart0_ne (Nat.ne_of_lt H.out.1))).mono ?_); rintro e w1 ⟨rfl, hT, hE⟩; have H1 := Lib.hid (And.intro hT hE); clear hT hE))
  have hf : Free w1 w.heap.size 0 4 := Free.turned (Free.newWords (cs := #[.int .u64 0, .int .u64 0, .int .u64 0, .int .u64 0]) rfl rfl) H1.out.1 H1.out.2 (by simp [size_alloc])
  exact bodyPost_ret (v := .pointer (some ⟨w.heap.size, 0, none⟩)) (by simp [results, Try.results47, go_sem]) rfl ⟨rfl, H1.out.1.lt (by simp [size_alloc]), Turned.ext_of_new (Ext.al _ _) H1.out.1 (Nat.le_refl _), hf, H1.out.2⟩
set_option maxHeartbeats 1000000 in
set_option maxRecDepth 100000 in
theorem ZZSqn_any (b : Nat) (x : Fp) (z : Int) (hz1 : 1 ≤ z) (hz2 : z < 1000) (w : World) (hb : b < w.heap.size) (h : Elt w b 0 x) : Calls Try.prog 36 #[.pointer (some ⟨b, 0, none⟩), .int .i64 z] w fun e w' => e = .returned (.pointer (some ⟨w.heap.size, 0, none⟩)) ∧ w.heap.size < w'.heap.size ∧ Ext w w' ∧ Free w' w.heap.size 0 4 ∧ Elt w' w.heap.size 0 (fpow x (2 ^ z.toNat)) := by
  have H := Lib.hid (And.intro hb h)
  clear hb h
  have HZ := Lib.hid (And.intro hz1 hz2)
  clear hz1 hz2
  go_enter Try.func36, Try.ntmps36
  go_wp2_with (first
    | (go_at_call 56; go_must (refine (Sqn_any w.heap.size 0 b 0 x z (w.alloc (.cells #[.int .u64 0, .int .u64 0, .int .u64 0, .int .u64 0] 95)) HZ.out.1 HZ.out.2 (by simp [size_alloc]) ((Ext.al _ _).lt H.out.1) (Free.newWords (cs := #[.int .u64 0, .int .u64 0, .int .u64 0, .int .u64 0]) rfl rfl) (H.out.2.alloc H.out.1 _)).mono ?_); rintro e w1 ⟨rfl, hT, hE⟩; have H1 := Lib.hid (And.intro hT hE); clear hT hE))
  have hf : Free w1 w.heap.size 0 4 := Free.turned (Free.newWords (cs := #[.int .u64 0, .int .u64 0, .int .u64 0, .int .u64 0]) rfl rfl) H1.out.1 H1.out.2 (by simp [size_alloc])
  exact bodyPost_ret (v := .pointer (some ⟨w.heap.size, 0, none⟩)) (by simp [results, Try.results36, go_sem]) rfl ⟨rfl, H1.out.1.lt (by simp [size_alloc]), Turned.ext_of_new (Ext.al _ _) H1.out.1 (Nat.le_refl _), hf, H1.out.2⟩
set_option maxHeartbeats 1000000 in
set_option maxRecDepth 100000 in
theorem ZZB_any (w : World) : Calls Try.prog 48 #[] w fun e w' => ∃ b, e = .returned (.pointer (some ⟨b, 0, none⟩)) ∧ b < w'.heap.size ∧ Ext w w' ∧ Elt w' b 0 cB := by
  go_enter Try.func48, Try.ntmps48
  go_wp2_with (first
    | (go_at_call 66; go_must (refine (p256B_any w).mono ?_); rintro e w1 ⟨b, rfl, _, hl, hE, _, he⟩))
  exact bodyPost_ret (v := .pointer (some ⟨b, 0, none⟩)) (by simp [results, Try.results48, go_sem]) rfl ⟨b, rfl, hl, hE, he⟩
set_option maxHeartbeats 1000000 in
set_option maxRecDepth 100000 in
theorem implB_any (w : World) : Calls Try.prog 27 #[] w fun e w' => e = .returned (.agg (bc (cB.val : Int))) ∧ Ext w w' := by
  go_enter Try.func27, Try.ntmps27
  go_wp2_with (first
    | (refine wpList_alloc_row rfl 22 _ rfl zeroB ?_)
    | (go_at_call 48; go_must (refine (ZZB_any _).mono ?_); rintro e w1 ⟨b, rfl, hb, hE, he⟩)
    | (go_at_call 37; go_must (refine (Bytes_any b 0 cB w1 hb he).mono ?_); rintro e w2 ⟨rfl, hE2, hl2, hh2⟩)
    | (refine wpList_s2apW rfl 22 _ rfl _ _ _ _ Try.underlying22 rfl ?_)
    | (refine wpList_load_bcW rfl 22 _ rfl _ rfl _ (hh2) _ Try.underlying22 rfl (inB _) ?_)
    | (first
      | (refine wpList_load_rowW rfl 22 _ rfl _ rfl _ _ _ _ (by (with_reducible first | assumption | (simp only [hsA, setRow_heap]; first | done | rfl) | (repeat (first | assumption | (refine heap_at _ _ _ ?_; simp only [hsA, setRow_heap]; done) | refine ext_row (Ext.al _ _) ?_ | refine ext_row (Ext.gr _ _) ?_ | refine ext_row (by assumption) ?_)))) Try.underlying22 rfl (inB _) ?_)
      | (refine wpList_load_partW rfl 22 _ rfl _ _ rfl _ _ _ (by (with_reducible first | assumption | (simp only [hsA, setRow_heap]; first | done | rfl) | (repeat (first | assumption | (refine heap_at _ _ _ ?_; simp only [hsA, setRow_heap]; done) | refine ext_row (Ext.al _ _) ?_ | refine ext_row (Ext.gr _ _) ?_ | refine ext_row (by assumption) ?_)))) _ (by first | with_reducible exact pc_x _ _ _ | with_reducible exact pc_y _ _ _ | with_reducible exact tc_x _ _ _ | with_reducible exact tc_y _ _ _ | with_reducible exact tc_z _ _ _) _ Try.underlying22 rfl (inB _) ?_)
      | (refine wpList_store_rowW rfl 22 _ _ rfl _ _ rfl rfl _ _ (by (with_reducible first | assumption | (simp only [hsA, setRow_heap]; first | done | rfl) | (repeat (first | assumption | (refine heap_at _ _ _ ?_; simp only [hsA, setRow_heap]; done) | refine ext_row (Ext.al _ _) ?_ | refine ext_row (Ext.gr _ _) ?_ | refine ext_row (by assumption) ?_)))) (inB _) (by simp only [ec_size, bc_size, pc_size, tc_size, ec_size, bc_size, pc_size, tc_size]; try rfl) (bc_one _) ?_; (try simp only [nmA]))))
  refine bodyPost_ret (results_cell_row rfl _ _ _ 22 _ (0, 0) _ rfl (setRow_heap _ _ _ _ _ _ (by (with_reducible first | assumption | (simp only [hsA, setRow_heap]; first | done | rfl) | (repeat (first | assumption | (refine heap_at _ _ _ ?_; simp only [hsA, setRow_heap]; done) | refine ext_row (Ext.al _ _) ?_ | refine ext_row (Ext.gr _ _) ?_ | refine ext_row (by assumption) ?_))))) Try.underlying22 rfl (inB _)) rfl ⟨rfl, ?_⟩
  (repeat (first | exact Ext.refl _ | assumption | exact hE6 .. | refine Ext.trans ?_ (Ext.al _ _) | refine Ext.trans ?_ (Ext.gr _ _) | refine Ext.trans ?_ (by with_reducible assumption) | refine Ext.setRow ?_ (by first | omega | (simp <;> omega)) _))
set_option maxHeartbeats 1000000 in
set_option maxRecDepth 100000 in
theorem Polynomial_good (x : Fp) (w : World) : Calls Try.prog 25 #[.agg (bc (x.val : Int))] w fun e w' => e = .returned (.tuple #[.agg (bc ((x * x * x - (x + x + x) + cB : Fp).val : Int)), .bool true]) ∧ Ext w w' := by
  go_enter Try.func25, Try.ntmps25
  go_wp2_with (first
    | (refine wpList_alloc_row rfl 22 _ rfl zeroB ?_)
    | (go_at_call 35; go_must (with_reducible refine (element_good x _).mono ?_); rintro e w1 ⟨b, rfl, hb0, hb, hE, hf, he⟩)
    | (go_at_call 47; go_must (refine (ZZPoly_any b x w1 hb he).mono ?_); rintro e w2 ⟨rfl, hl2, hE2, _, he2⟩)
    | (go_at_call 37; go_must (refine (Bytes_any w1.heap.size 0 _ w2 hl2 he2).mono ?_); rintro e w3 ⟨rfl, hE3, hl3, hh3⟩)
    | (refine wpList_s2apW rfl 22 _ rfl _ _ _ _ Try.underlying22 rfl ?_)
    | (refine wpList_load_bcW rfl 22 _ rfl _ rfl _ (hh3) _ Try.underlying22 rfl (inB _) ?_)
    | (first
      | (refine wpList_load_rowW rfl 22 _ rfl _ rfl _ _ _ _ (by (with_reducible first | assumption | (simp only [hsA, setRow_heap]; first | done | rfl) | (repeat (first | assumption | (refine heap_at _ _ _ ?_; simp only [hsA, setRow_heap]; done) | refine ext_row (Ext.al _ _) ?_ | refine ext_row (Ext.gr _ _) ?_ | refine ext_row (by assumption) ?_)))) Try.underlying22 rfl (inB _) ?_)
      | (refine wpList_load_partW rfl 22 _ rfl _ _ rfl _ _ _ (by (with_reducible first | assumption | (simp only [hsA, setRow_heap]; first | done | rfl) | (repeat (first | assumption | (refine heap_at _ _ _ ?_; simp only [hsA, setRow_heap]; done) | refine ext_row (Ext.al _ _) ?_ | refine ext_row (Ext.gr _ _) ?_ | refine ext_row (by assumption) ?_)))) _ (by first | with_reducible exact pc_x _ _ _ | with_reducible exact pc_y _ _ _ | with_reducible exact tc_x _ _ _ | with_reducible exact tc_y _ _ _ | with_reducible exact tc_z _ _ _) _ Try.underlying22 rfl (inB _) ?_)
      | (refine wpList_store_rowW rfl 22 _ _ rfl _ _ rfl rfl _ _ (by (with_reducible first | assumption | (simp only [hsA, setRow_heap]; first | done | rfl) | (repeat (first | assumption | (refine heap_at _ _ _ ?_; simp only [hsA, setRow_heap]; done) | refine ext_row (Ext.al _ _) ?_ | refine ext_row (Ext.gr _ _) ?_ | refine ext_row (by assumption) ?_)))) (inB _) (by simp only [ec_size, bc_size, pc_size, tc_size, ec_size, bc_size, pc_size, tc_size]; try rfl) (bc_one _) ?_; (try simp only [nmA]))))
  refine bodyPost_ret (results_cell_tmp rfl _ _ _ 22 _ (0, 0) _ rfl _ rfl (setRow_heap _ _ _ _ _ _ (by (with_reducible first | assumption | (simp only [hsA, setRow_heap]; first | done | rfl) | (repeat (first | assumption | (refine heap_at _ _ _ ?_; simp only [hsA, setRow_heap]; done) | refine ext_row (Ext.al _ _) ?_ | refine ext_row (Ext.gr _ _) ?_ | refine ext_row (by assumption) ?_))))) Try.underlying22 rfl (inB _)) rfl ⟨rfl, ?_⟩
  (repeat (first | exact Ext.refl _ | assumption | exact hE6 .. | refine Ext.trans ?_ (Ext.al _ _) | refine Ext.trans ?_ (Ext.gr _ _) | refine Ext.trans ?_ (by with_reducible assumption) | refine Ext.setRow ?_ (by first | omega | (simp <;> omega)) _))
set_option maxHeartbeats 1000000 in
set_option maxRecDepth 100000 in
theorem Polynomial_bad (X : Int) (h0 : 0 ≤ X) (h1 : X < R256) (hp : ¬ X < pI) (w : World) : Calls Try.prog 25 #[.agg (bc X)] w fun e w' => e = .returned (.tuple #[.agg (bc 0), .bool false]) ∧ Ext w w' := by
  have HB := Lib.hid (element_bad X h0 h1 hp)
  clear h0 h1 hp
  go_enter Try.func25, Try.ntmps25
  go_wp2_with (first
    | (refine wpList_alloc_row rfl 22 _ rfl zeroB ?_)
    | (go_at_call 35; go_must (with_reducible refine (HB.out _).mono ?_); rintro e w1 ⟨rfl, hE⟩)
    | (first
      | (refine wpList_load_rowW rfl 22 _ rfl _ rfl _ _ _ _ (by (with_reducible first | assumption | (simp only [hsA, setRow_heap]; first | done | rfl) | (repeat (first | assumption | (refine heap_at _ _ _ ?_; simp only [hsA, setRow_heap]; done) | refine ext_row (Ext.al _ _) ?_ | refine ext_row (Ext.gr _ _) ?_ | refine ext_row (by assumption) ?_)))) Try.underlying22 rfl (inB _) ?_)
      | (refine wpList_load_partW rfl 22 _ rfl _ _ rfl _ _ _ (by (with_reducible first | assumption | (simp only [hsA, setRow_heap]; first | done | rfl) | (repeat (first | assumption | (refine heap_at _ _ _ ?_; simp only [hsA, setRow_heap]; done) | refine ext_row (Ext.al _ _) ?_ | refine ext_row (Ext.gr _ _) ?_ | refine ext_row (by assumption) ?_)))) _ (by first | with_reducible exact pc_x _ _ _ | with_reducible exact pc_y _ _ _ | with_reducible exact tc_x _ _ _ | with_reducible exact tc_y _ _ _ | with_reducible exact tc_z _ _ _) _ Try.underlying22 rfl (inB _) ?_)
      | (refine wpList_store_rowW rfl 22 _ _ rfl _ _ rfl rfl _ _ (by (with_reducible first | assumption | (simp only [hsA, setRow_heap]; first | done | rfl) | (repeat (first | assumption | (refine heap_at _ _ _ ?_; simp only [hsA, setRow_heap]; done) | refine ext_row (Ext.al _ _) ?_ | refine ext_row (Ext.gr _ _) ?_ | refine ext_row (by assumption) ?_)))) (inB _) (by simp only [ec_size, bc_size, pc_size, tc_size, ec_size, bc_size, pc_size, tc_size]; try rfl) (bc_one _) ?_; (try simp only [nmA]))
      | (refine wpList_buildW rfl _ _ rfl _ (by rw [Array.toList_map]; first | exact builtP _ _ | exact builtF | exact builtZ | exact builtE | exact builtT _ _ _ | exact builtT0 | exact builtB0) ?_)))
  refine bodyPost_ret (results_cell_tmp rfl _ _ _ 22 _ (0, 0) _ rfl _ rfl (setRow_heap _ _ _ _ _ _ (by (with_reducible first | assumption | (simp only [hsA, setRow_heap]; first | done | rfl) | (repeat (first | assumption | (refine heap_at _ _ _ ?_; simp only [hsA, setRow_heap]; done) | refine ext_row (Ext.al _ _) ?_ | refine ext_row (Ext.gr _ _) ?_ | refine ext_row (by assumption) ?_))))) Try.underlying22 rfl (inB _)) rfl ⟨rfl, ?_⟩
  (repeat (first | exact Ext.refl _ | assumption | exact hE6 .. | refine Ext.trans ?_ (Ext.al _ _) | refine Ext.trans ?_ (Ext.gr _ _) | refine Ext.trans ?_ (by with_reducible assumption) | refine Ext.setRow ?_ (by first | omega | (simp <;> omega)) _))
set_option maxHeartbeats 1000000 in
set_option maxRecDepth 100000 in
theorem SquareN_good (x : Fp) (z : Int) (hz1 : 1 ≤ z) (hz2 : z ≤ 100) (w : World) : Calls Try.prog 12 #[.agg (bc (x.val : Int)), .int .i64 z] w fun e w' => e = .returned (.tuple #[.agg (bc ((fpow x (2 ^ z.toNat) : Fp).val : Int)), .bool true]) ∧ Ext w w' := by
  have HZ := Lib.hid (And.intro hz1 (show z < 1000 by omega))
  have hz3 : ¬ z < 0 := by omega
  have hz4 : ¬ z > 300 := by omega
  clear hz1 hz2
  go_enter Try.func12, Try.ntmps12
  go_wp2_with (first
    | (refine wpList_alloc_row rfl 22 _ rfl zeroB ?_)
    | (go_at_call 35; go_must (with_reducible refine (element_good x _).mono ?_); rintro e w1 ⟨b, rfl, hb0, hb, hE, hf, he⟩)
    | (go_at_call 36; go_must (refine (ZZSqn_any b x z HZ.out.1 HZ.out.2 w1 hb he).mono ?_); rintro e w2 ⟨rfl, hl2, hE2, _, he2⟩)
    | (go_at_call 37; go_must (refine (Bytes_any w1.heap.size 0 _ w2 hl2 he2).mono ?_); rintro e w3 ⟨rfl, hE3, hl3, hh3⟩)
    | (refine wpList_s2apW rfl 22 _ rfl _ _ _ _ Try.underlying22 rfl ?_)
    | (refine wpList_load_bcW rfl 22 _ rfl _ rfl _ (hh3) _ Try.underlying22 rfl (inB _) ?_)
    | (first
      | (refine wpList_load_rowW rfl 22 _ rfl _ rfl _ _ _ _ (by (with_reducible first | assumption | (simp only [hsA, setRow_heap]; first | done | rfl) | (repeat (first | assumption | (refine heap_at _ _ _ ?_; simp only [hsA, setRow_heap]; done) | refine ext_row (Ext.al _ _) ?_ | refine ext_row (Ext.gr _ _) ?_ | refine ext_row (by assumption) ?_)))) Try.underlying22 rfl (inB _) ?_)
      | (refine wpList_load_partW rfl 22 _ rfl _ _ rfl _ _ _ (by (with_reducible first | assumption | (simp only [hsA, setRow_heap]; first | done | rfl) | (repeat (first | assumption | (refine heap_at _ _ _ ?_; simp only [hsA, setRow_heap]; done) | refine ext_row (Ext.al _ _) ?_ | refine ext_row (Ext.gr _ _) ?_ | refine ext_row (by assumption) ?_)))) _ (by first | with_reducible exact pc_x _ _ _ | with_reducible exact pc_y _ _ _ | with_reducible exact tc_x _ _ _ | with_reducible exact tc_y _ _ _ | with_reducible exact tc_z _ _ _) _ Try.underlying22 rfl (inB _) ?_)
      | (refine wpList_store_rowW rfl 22 _ _ rfl _ _ rfl rfl _ _ (by (with_reducible first | assumption | (simp only [hsA, setRow_heap]; first | done | rfl) | (repeat (first | assumption | (refine heap_at _ _ _ ?_; simp only [hsA, setRow_heap]; done) | refine ext_row (Ext.al _ _) ?_ | refine ext_row (Ext.gr _ _) ?_ | refine ext_row (by assumption) ?_)))) (inB _) (by simp only [ec_size, bc_size, pc_size, tc_size, ec_size, bc_size, pc_size, tc_size]; try rfl) (bc_one _) ?_; (try simp only [nmA]))))
  refine bodyPost_ret (results_cell_tmp rfl _ _ _ 22 _ (0, 0) _ rfl _ rfl (setRow_heap _ _ _ _ _ _ (by (with_reducible first | assumption | (simp only [hsA, setRow_heap]; first | done | rfl) | (repeat (first | assumption | (refine heap_at _ _ _ ?_; simp only [hsA, setRow_heap]; done) | refine ext_row (Ext.al _ _) ?_ | refine ext_row (Ext.gr _ _) ?_ | refine ext_row (by assumption) ?_))))) Try.underlying22 rfl (inB _)) rfl ⟨rfl, ?_⟩
  (repeat (first | exact Ext.refl _ | assumption | exact hE6 .. | refine Ext.trans ?_ (Ext.al _ _) | refine Ext.trans ?_ (Ext.gr _ _) | refine Ext.trans ?_ (by with_reducible assumption) | refine Ext.setRow ?_ (by first | omega | (simp <;> omega)) _))
end Go.Proofs.Ytbdmicmohopmaaa
