/-
  What is proved here: what making an element of 32 bytes returns, and what the doors on elements return.
  Conditions: those of each theorem.
-/
import Derived.Test.YtmepgkcijeobkaaProg
import Derived.Test.YtmepgkcijeobkaaPts
import Derived.Test.YtmepgkcijeobkaaByuSet
import Derived.Test.YtmepgkcijeobkaaSpecISpecJ
import Derived.Test.YtmepgkcijeobkaaClonePrjA
import Derived.Test.YtmepgkcijeobkaaArrEq
import Derived.WalkKit
import Derived.WalkSpells
import Derived.Outline
import Derived.Handy
import Derived.ProofKit
import Derived.Deep.QuietTactic
import Derived.BigQuiet
import Derived.Lib.Hide
import Derived.OpenShut
namespace Go.Proofs.Ytmepgkcijeobkaa
open Go Go.RowKit Ecp
set_option linter.unusedSimpArgs false
set_option linter.unusedVariables false

theorem held_bc {w : World} {b : Nat} {S : Int} {t : TypeId} {fr : Nat × Nat} (h : w.heap[b]? = some (.cells (bc S) t fr)) : Held .u8 w b 0 (bds 32 S).reverse := by
  rw [bc_def] at h
  exact Held.row t fr h
theorem zeroB : ∀ w, (zeroValue 31).run Try.prog w = .ok (.agg (bc 0)) w := by
  rw [bc_def]
  exact (zero_of_info (P := Try.prog) (n := 32) (by kernel_rfl)).1
theorem builtB0 : Try.prog.built 31 [] = some (bc 0) := by
  rw [bc_def]
  kernel_rfl
theorem bdsr_len (S : Int) : (bds 32 S).reverse.length = 32 := rev_len S
theorem eqlB (a b : Int) (w : World) : (binOp .eql 31 (.agg (bc a)) (.agg (bc b))).run Try.prog w = .ok (.bool (decide ((bds 32 a).reverse = (bds 32 b).reverse))) w := by
  rw [bc_def, bc_def]
  exact run_eql_ints (P := Try.prog) w 31 5 32 .u8 Try.underlying31 Try.underlying5 (fun w => by simp [go_sem]) _ _ (rev_len _) (rev_len _)
theorem eqlEE (a : Int) (w : World) : (binOp .eql 24 (.agg (ec a)) (.agg (ec a))).run Try.prog w = .ok (.bool true) w := by
  rw [eqlE, decide_eq_true rfl]
theorem eqlBB (a : Int) (w : World) : (binOp .eql 31 (.agg (bc a)) (.agg (bc a))).run Try.prog w = .ok (.bool true) w := by
  rw [eqlB, decide_eq_true rfl]
theorem quiet_eqlE {o : Oper} {a : Act} {C : World → Prop} {K : Act → Prop} (x y : Operand) (ho : o.op = .binOp .eql 24 x y 24) (S T : Int) (b : Bool) (hx : a.eval x = .agg (ec S)) (hy : a.eval y = .agg (ec T)) (hb : decide (digs 8 S = digs 8 T) = b) (h : K (a.put o.dst (.bool b))) : o.quiet Try.prog a C K :=
  ⟨.bool b, fun w hw => by
    unfold Oper.quietAt execOp
    simp only [ho, hx, hy, Sem.run_bind, run_eqGuard_agg w .eql _ x y (ec S) (ec T) (by rw [Try.eqGuardType24]), Result.andThen_ok, Sem.run_map, eqlE, hb]
    exact ⟨rfl, rfl⟩, h⟩
theorem quiet_eqlB {o : Oper} {a : Act} {C : World → Prop} {K : Act → Prop} (x y : Operand) (ho : o.op = .binOp .eql 31 x y 31) (S : Int) (hx : a.eval x = .agg (bc S)) (hy : a.eval y = .agg (bc S)) (h : K (a.put o.dst (.bool true))) : o.quiet Try.prog a C K :=
  ⟨.bool true, fun w hw => by
    unfold Oper.quietAt execOp
    simp only [ho, hx, hy, Sem.run_bind, run_eqGuard_agg w .eql _ x y (bc S) (bc S) (by rw [Try.eqGuardType31]), Result.andThen_ok, Sem.run_map, eqlBB]
    exact ⟨rfl, rfl⟩, h⟩
theorem g_poly' {n : Nat} [NeZero n] (x b : Fin n) : x * x * x - (x + x + x) + b = x * x * x - 3 * x + b := by grind -lia
theorem g_p0' {n : Nat} [NeZero n] (b : Fin n) : 0 * 0 * 0 - (0 + 0 + 0) + b = b := by grind -lia
theorem g_p0 : (0 * 0 * 0 - (0 + 0 + 0) + cB : Fp) = cB := g_p0' cB
section
variable {P : Program} {ops : Array Oper} {rest : List Oper} {o : Oper} {a : Act} {w : World} {Q : Exit → Act → World → Prop}
theorem wpList_s2apW (hw : Region.wanted o (yielded ops a.tmps) = true) (arr : TypeId) (x : Operand) (ho : o.op = .sliceToArrayPointer arr x) (g n cap : Nat) (e : TypeId) (hu : P.underlying arr = some (.array n e)) (hx : a.eval x = .slice (some ⟨g, 0, none⟩) n cap)
    (h : wpList P ops Q rest (a.put o.dst (.pointer (some ⟨g, 0, none⟩))) w) : wpList P ops Q (o :: rest) a w :=
  wpList_want hw fun K hK => by
    unfold Oper.wp execOp
    simp only [ho, hx, Instr.arrayAt, Sem.run_bind, run_underlying hu, Result.andThen_ok]
    simp [go_sem]
    exact hK _ _ h
theorem range_bc {w : World} {g off : Nat} {S : Int} (hb : Held .u8 w g off (bds 32 S).reverse) : w.rangeAt g off (bc S).toList := fun j v hv => by
  rw [Array.getElem?_toList] at hv
  have hj : j < 32 := by
    have := (Array.getElem?_eq_some_iff.1 hv).1
    rwa [bc_size] at this
  rw [bc_at S j hj] at hv
  rw [← hv]
  have hl : j < (bds 32 S).reverse.length := by rw [rev_len]; exact hj
  exact hb j _ (getD_in' hl)
theorem wpList_load_bcW (hw : Region.wanted o (yielded ops a.tmps) = true) (ty : TypeId) (x : Operand) (ho : o.op = .load ty x) (g : Nat) (hx : a.eval x = .pointer (some ⟨g, 0, none⟩)) (S : Int) (hb : Held .u8 w g 0 (bds 32 S).reverse) (d : TypeDesc)
    (hu : P.underlying ty = some d) (hd : d.isRow = true) (hi : (P.info? ty).map (·.size) = some (bc S).size) (h : wpList P ops Q rest (a.put o.dst (.agg (bc S))) w) : wpList P ops Q (o :: rest) a w :=
  wpList_want hw fun K hK => wp_load_mid ty x ho g 0 hx (bc S).toList d (range_bc hb) hu hd (by rw [hi, Array.length_toList]) (by rw [Array.toArray_toList]; exact hK _ _ h)
end
theorem SetB_any (x : Fp) (b o c p k : Nat) (w : World) (hb : b < w.heap.size) (hc : c < w.heap.size) (hf : Free w b o 4) (h : Held .u8 w c p (bds 32 (x.val : Int)).reverse) :
    Calls Try.prog 83 #[.pointer (some ⟨b, o, none⟩), .slice (some ⟨c, p, none⟩) 32 k] w fun e w' => e = .returned (.tuple #[.pointer (some ⟨b, o, none⟩), .nilIface]) ∧ Turned b o 4 w w' ∧ Elt w' b o x := by
  have e : be (bds 32 (x.val : Int)).reverse = (x.val : Int) := be_bc (fv_bd x).1 (fv_bd x).2
  have := SetBytes_pre b o c p k _ (rev_len _) (rev_bd _) (by rw [e]; exact fv_lt x) w hb hc hf h
  rw [e, zf_nat] at this
  exact this
theorem SetBad_any (X : Int) (h0 : 0 ≤ X) (h1 : X < R256) (hp : ¬ X < pI) (b o c p k : Nat) (w : World) (hb : b < w.heap.size) (hc : c < w.heap.size) (hf : Free w b o 4) (h : Held .u8 w c p (bds 32 X).reverse) :
    Calls Try.prog 83 #[.pointer (some ⟨b, o, none⟩), .slice (some ⟨c, p, none⟩) 32 k] w fun e w' => (∃ t u, e = .returned (.tuple #[.pointer none, .iface t u])) ∧ Ext w w' :=
  SetBytes_bad b o c p k _ (rev_len _) (rev_bd _) (by rw [be_bc h0 h1]; exact hp) w hb hc hf h
set_option maxHeartbeats 1000000 in
set_option maxRecDepth 100000 in
theorem element_good (x : Fp) (w : World) : Calls Try.prog 75 #[.agg (bc (x.val : Int))] w fun e w' => ∃ b, e = .returned (.tuple #[.pointer (some ⟨b, 0, none⟩), .bool true]) ∧ w.heap.size ≤ b ∧ b < w'.heap.size ∧ Ext w w' ∧ Free w' b 0 4 ∧ Elt w' b 0 x := by
  go_enter Try.func75, Try.ntmps75
  go_wp2_with (first
    | (go_at_call 83; go_must (refine (SetB_any x (w.heap.size + 1) 0 w.heap.size 0 32 ((w.alloc (.cells (bc (x.val : Int)) 31)).alloc (.cells #[.int .u64 0, .int .u64 0, .int .u64 0, .int .u64 0] 111)) (by simp [size_alloc] <;> omega) (by simp [size_alloc] <;> omega) (Free.newWords (by simp [size_alloc]) rfl) (Held.alloc (held_bc (heap_at _ _ _ rfl)) (by simp [size_alloc]) _)).mono ?_); rintro e w1 ⟨rfl, hT, hE⟩; have hf : Free w1 (w.heap.size + 1) 0 4 := Free.turned (Free.newWords (len := 4) (by simp [size_alloc]) rfl) hT hE (by simp [size_alloc]); have hl := hT.lt (c := w.heap.size + 1) (by simp [size_alloc]); have hx : Ext w w1 := Turned.ext_of_new ((Ext.al w _).trans (Ext.al _ _)) hT (Nat.le_succ _); have H1 := Lib.hid (And.intro hx (And.intro hl (And.intro hf hE))); clear hT hE hf hl hx)
    | (first
      | (refine wp_grow (l := [_, _, _, _, _]) (by kernel_rfl) (by kernel_rfl) ?_; (try simp only [act_put_none]); (repeat (first | go_big_quiet_skip | (go_big_quiet_want; go_big_quiet_op; first | go_big_quiet_on))); refine wpQuiet_nil ?_; intro _ hw'; obtain ⟨g', hw''⟩ := hw'; subst hw'')))
  exact bodyPost_ret (v := .tuple #[.pointer (some ⟨w.heap.size + 1, 0, none⟩), .bool true]) (by simp [results, Try.results75, go_sem]) rfl ⟨_, rfl, Nat.le_succ _, (Ext.gr _ _).lt H1.out.2.1, H1.out.1.trans (Ext.gr _ _), (Ext.gr _ _).free H1.out.2.1 H1.out.2.2.1, (Ext.gr _ _).elt H1.out.2.1 H1.out.2.2.2⟩
set_option maxHeartbeats 1000000 in
set_option maxRecDepth 100000 in
theorem element_bad (X : Int) (h0 : 0 ≤ X) (h1 : X < R256) (hp : ¬ X < pI) (w : World) : Calls Try.prog 75 #[.agg (bc X)] w fun e w' => e = .returned (.tuple #[.pointer none, .bool false]) ∧ Ext w w' := by
  have HS := Lib.hid (SetBad_any X h0 h1 hp)
  clear h0 h1 hp
  go_enter Try.func75, Try.ntmps75
  go_wp2_with (first
    | (go_at_call 83; go_must (refine (HS.out (w.heap.size + 1) 0 w.heap.size 0 32 ((w.alloc (.cells (bc X) 31)).alloc (.cells #[.int .u64 0, .int .u64 0, .int .u64 0, .int .u64 0] 111)) (by simp [size_alloc] <;> omega) (by simp [size_alloc] <;> omega) (Free.newWords (by simp [size_alloc]) rfl) (Held.alloc (held_bc (heap_at _ _ _ rfl)) (by simp [size_alloc]) _)).mono ?_); rintro e w1 ⟨⟨t, u, rfl⟩, hE⟩; have H1 := Lib.hid hE; clear hE)
    | (first
      | (refine wp_grow (l := [_, _, _, _, _]) (by kernel_rfl) (by kernel_rfl) ?_; (try simp only [act_put_none]); (repeat (first | go_big_quiet_skip | (go_big_quiet_want; go_big_quiet_op; first | go_big_quiet_on))); refine wpQuiet_nil ?_; intro _ hw'; obtain ⟨g', hw''⟩ := hw'; subst hw'')))
  exact bodyPost_ret (v := .tuple #[.pointer none, .bool false]) (by simp [results, Try.results75, go_sem]) rfl ⟨rfl, (((Ext.al w _).trans (Ext.al _ _)).trans H1.out).trans (Ext.gr _ _)⟩
end Go.Proofs.Ytmepgkcijeobkaa
/-
  What is proved here: whether two coordinates are those of a point.
  Conditions: those of each theorem.
-/
namespace Go.Proofs.Ytmepgkcijeobkaa
open Go Go.RowKit Ecp
set_option linter.unusedSimpArgs false
set_option linter.unusedVariables false

theorem onc_iff (x y : Fp) : x * x * x - (x + x + x) + cB = y * y ↔ Onc x y := by
  rw [g_poly' x cB]
  exact ⟨fun h => h.symm, fun h => h.symm⟩
set_option maxHeartbeats 1000000 in
set_option maxRecDepth 100000 in
theorem Check_on (b c : Nat) (x y : Fp) (w : World) (hb : b < w.heap.size) (hc : c < w.heap.size) (hx : Elt w b 0 x) (hy : Elt w c 0 y) (ho : Onc x y) : Calls Try.prog 84 #[.pointer (some ⟨b, 0, none⟩), .pointer (some ⟨c, 0, none⟩)] w fun e w' => e = .returned .nilIface ∧ Ext w w' := by
  have H := Lib.hid (And.intro hb (And.intro hc (And.intro hx hy)))
  have HO := Lib.hid ho
  clear hb hc hx hy ho
  go_enter Try.func84, Try.ntmps84
  go_wp2_with (first
    | (go_at_call 87; go_must (refine (Poly_any w.heap.size 0 b 0 x (w.alloc (.cells #[.int .u64 0, .int .u64 0, .int .u64 0, .int .u64 0] 111)) (by simp [size_alloc]) (size_al H.out.1 _) (Free.newWords (cs := #[.int .u64 0, .int .u64 0, .int .u64 0, .int .u64 0]) rfl rfl) (H.out.2.2.1.alloc H.out.1 _) (apart0_ne (Nat.ne_of_lt H.out.1))).mono ?_); rintro e w1 ⟨rfl, hT, hE⟩; have H1 := Lib.hid (And.intro hT hE); have hl1 := Lib.hid (show w.heap.size < w1.heap.size from hT.lt (by simp [size_alloc])); have hc1 := Lib.hid (show c < w1.heap.size from hT.lt (size_al H.out.2.1 _)); clear hT hE)
    | (go_at_call 102; go_must (refine (Elm_Square w1.heap.size 0 c 0 y (w1.alloc (.cells #[.int .u64 0, .int .u64 0, .int .u64 0, .int .u64 0] 111)) (by simp [size_alloc]) (size_al hc1.out _) (Free.newWords (cs := #[.int .u64 0, .int .u64 0, .int .u64 0, .int .u64 0]) rfl rfl) (Elt.alloc ((H.out.2.2.2.alloc H.out.2.1 _).far H1.out.1 (size_al H.out.2.1 _) (.inl (Nat.ne_of_lt H.out.2.1))) hc1.out _)).mono ?_); rintro e w2 ⟨rfl, hT, hE⟩; have H2 := Lib.hid (And.intro hT hE); clear hT hE)
    | (go_at_call 114; go_must (refine (Equal_any w.heap.size 0 w1.heap.size 0 _ _ w2 (H2.out.1.lt (size_al hl1.out _)) (H2.out.1.lt (by simp [size_alloc])) ((H1.out.2.alloc hl1.out _).far H2.out.1 (size_al hl1.out _) (.inl (Nat.ne_of_lt hl1.out))) H2.out.2).mono ?_); rintro e w3 ⟨he, hE3⟩; rw [if_pos ((onc_iff x y).2 HO.out)] at he; subst he; have H3 := Lib.hid hE3; clear hE3))
  exact bodyPost_ret (v := .nilIface) (by simp [results, Try.results84, go_sem]) rfl ⟨rfl, (Turned.ext_of_new ((Turned.ext_of_new (Ext.al _ _) H1.out.1 (Nat.le_refl _)).trans (Ext.al _ _)) H2.out.1 (Nat.le_of_lt hl1.out)).trans H3.out⟩
set_option maxHeartbeats 1000000 in
set_option maxRecDepth 100000 in
theorem Check_off (b c : Nat) (x y : Fp) (w : World) (hb : b < w.heap.size) (hc : c < w.heap.size) (hx : Elt w b 0 x) (hy : Elt w c 0 y) (ho : ¬ Onc x y) : Calls Try.prog 84 #[.pointer (some ⟨b, 0, none⟩), .pointer (some ⟨c, 0, none⟩)] w fun e w' => (∃ t u, e = .returned (.iface t u)) ∧ Ext w w' := by
  have H := Lib.hid (And.intro hb (And.intro hc (And.intro hx hy)))
  have HO := Lib.hid ho
  clear hb hc hx hy ho
  go_enter Try.func84, Try.ntmps84
  go_wp2_with (first
    | (go_at_call 87; go_must (refine (Poly_any w.heap.size 0 b 0 x (w.alloc (.cells #[.int .u64 0, .int .u64 0, .int .u64 0, .int .u64 0] 111)) (by simp [size_alloc]) (size_al H.out.1 _) (Free.newWords (cs := #[.int .u64 0, .int .u64 0, .int .u64 0, .int .u64 0]) rfl rfl) (H.out.2.2.1.alloc H.out.1 _) (apart0_ne (Nat.ne_of_lt H.out.1))).mono ?_); rintro e w1 ⟨rfl, hT, hE⟩; have H1 := Lib.hid (And.intro hT hE); have hl1 := Lib.hid (show w.heap.size < w1.heap.size from hT.lt (by simp [size_alloc])); have hc1 := Lib.hid (show c < w1.heap.size from hT.lt (size_al H.out.2.1 _)); clear hT hE)
    | (go_at_call 102; go_must (refine (Elm_Square w1.heap.size 0 c 0 y (w1.alloc (.cells #[.int .u64 0, .int .u64 0, .int .u64 0, .int .u64 0] 111)) (by simp [size_alloc]) (size_al hc1.out _) (Free.newWords (cs := #[.int .u64 0, .int .u64 0, .int .u64 0, .int .u64 0]) rfl rfl) (Elt.alloc ((H.out.2.2.2.alloc H.out.2.1 _).far H1.out.1 (size_al H.out.2.1 _) (.inl (Nat.ne_of_lt H.out.2.1))) hc1.out _)).mono ?_); rintro e w2 ⟨rfl, hT, hE⟩; have H2 := Lib.hid (And.intro hT hE); clear hT hE)
    | (go_at_call 114; go_must (refine (Equal_any w.heap.size 0 w1.heap.size 0 _ _ w2 (H2.out.1.lt (size_al hl1.out _)) (H2.out.1.lt (by simp [size_alloc])) ((H1.out.2.alloc hl1.out _).far H2.out.1 (size_al hl1.out _) (.inl (Nat.ne_of_lt hl1.out))) H2.out.2).mono ?_); rintro e w3 ⟨he, hE3⟩; rw [if_neg (fun h => HO.out ((onc_iff x y).1 h))] at he; subst he; have H3 := Lib.hid hE3; clear hE3)
    | (go_at_call 89; go_must (refine (errorsNew_any _ _).mono ?_); rintro e w4 ⟨⟨t, u, rfl⟩, hE4⟩; have H4 := Lib.hid hE4; clear hE4))
  exact bodyPost_ret (v := .iface t u) (by simp [results, Try.results84, go_sem]) rfl ⟨⟨t, u, rfl⟩, ((Turned.ext_of_new ((Turned.ext_of_new (Ext.al _ _) H1.out.1 (Nat.le_refl _)).trans (Ext.al _ _)) H2.out.1 (Nat.le_of_lt hl1.out)).trans H3.out).trans H4.out⟩
theorem element_any (X : Int) (h0 : 0 ≤ X) (h1 : X < R256) (w : World) : Calls Try.prog 75 #[.agg (bc X)] w fun e w' => ∃ p, e = .returned (.tuple #[.pointer p, .bool (decide (X < pI))]) ∧ Ext w w' := by
  by_cases hp : X < pI
  · obtain ⟨x, rfl⟩ : ∃ x : Fp, X = (x.val : Int) := ⟨zf X, by rw [zf_val, Int.emod_eq_of_lt h0 hp]⟩
    refine (element_good x w).mono ?_
    rintro e w' ⟨b, rfl, _, _, hE, _, _⟩
    exact ⟨_, by rw [decide_eq_true hp], hE⟩
  · refine (element_bad X h0 h1 hp w).mono ?_
    rintro e w' ⟨rfl, hE⟩
    exact ⟨_, by rw [decide_eq_false hp], hE⟩
end Go.Proofs.Ytmepgkcijeobkaa
