/-
  What is proved here: whether two coordinates are those of a point.
  Conditions: those of each theorem.
-/
import Derived.Test.YtbdmicmohopmaaaProg
import Derived.Test.YtbdmicmohopmaaaEle
import Derived.WalkKit
import Derived.WalkSpells
import Derived.Outline
import Derived.Handy
import Derived.ProofKit
import Derived.Deep.QuietTactic
import Derived.BigQuiet
import Derived.Lib.Hide
import Derived.OpenShut
namespace Go.Proofs.Ytbdmicmohopmaaa
open Go Go.RowKit Ecp
set_option linter.unusedSimpArgs false
set_option linter.unusedVariables false

theorem onc_iff (x y : Fp) : x * x * x - (x + x + x) + cB = y * y ↔ Onc x y := by
  rw [g_poly' x cB]
  exact ⟨fun h => h.symm, fun h => h.symm⟩
set_option maxHeartbeats 1000000 in
set_option maxRecDepth 100000 in
theorem Check_on (b c : Nat) (x y : Fp) (w : World) (hb : b < w.heap.size) (hc : c < w.heap.size) (hx : Elt w b 0 x) (hy : Elt w c 0 y) (ho : Onc x y) : Calls Try.prog 71 #[.pointer (some ⟨b, 0, none⟩), .pointer (some ⟨c, 0, none⟩)] w fun e w' => e = .returned .nilIface ∧ Ext w w' := by
  have H := Lib.hid (And.intro hb (And.intro hc (And.intro hx hy)))
  have HO := Lib.hid ho
  clear hb hc hx hy ho
  go_enter Try.func71, Try.ntmps71
  go_wp2_with (first
    | (go_at_call 69; go_must (refine (Poly_any w.heap.size 0 b 0 x (w.alloc (.cells #[.int .u64 0, .int .u64 0, .int .u64 0, .int .u64 0] 95)) (by simp [size_alloc]) (size_al H.out.1 _) (Free.newWords (cs := #[.int .u64 0, .int .u64 0, .int .u64 0, .int .u64 0]) rfl rfl) (H.out.2.2.1.alloc H.out.1 _) (apart0_ne (Nat.ne_of_lt H.out.1))).mono ?_); rintro e w1 ⟨rfl, hT, hE⟩; have H1 := Lib.hid (And.intro hT hE); have hl1 := Lib.hid (show w.heap.size < w1.heap.size from hT.lt (by simp [size_alloc])); have hc1 := Lib.hid (show c < w1.heap.size from hT.lt (size_al H.out.2.1 _)); clear hT hE)
    | (go_at_call 72; go_must (refine (Elm_Square w1.heap.size 0 c 0 y (w1.alloc (.cells #[.int .u64 0, .int .u64 0, .int .u64 0, .int .u64 0] 95)) (by simp [size_alloc]) (size_al hc1.out _) (Free.newWords (cs := #[.int .u64 0, .int .u64 0, .int .u64 0, .int .u64 0]) rfl rfl) (Elt.alloc ((H.out.2.2.2.alloc H.out.2.1 _).far H1.out.1 (size_al H.out.2.1 _) (.inl (Nat.ne_of_lt H.out.2.1))) hc1.out _)).mono ?_); rintro e w2 ⟨rfl, hT, hE⟩; have H2 := Lib.hid (And.intro hT hE); clear hT hE)
    | (go_at_call 87; go_must (refine (Equal_any w.heap.size 0 w1.heap.size 0 _ _ w2 (H2.out.1.lt (size_al hl1.out _)) (H2.out.1.lt (by simp [size_alloc])) ((H1.out.2.alloc hl1.out _).far H2.out.1 (size_al hl1.out _) (.inl (Nat.ne_of_lt hl1.out))) H2.out.2).mono ?_); rintro e w3 ⟨he, hE3⟩; rw [if_pos ((onc_iff x y).2 HO.out)] at he; subst he; have H3 := Lib.hid hE3; clear hE3))
  exact bodyPost_ret (v := .nilIface) (by simp [results, Try.results71, go_sem]) rfl ⟨rfl, (Turned.ext_of_new ((Turned.ext_of_new (Ext.al _ _) H1.out.1 (Nat.le_refl _)).trans (Ext.al _ _)) H2.out.1 (Nat.le_of_lt hl1.out)).trans H3.out⟩
set_option maxHeartbeats 1000000 in
set_option maxRecDepth 100000 in
theorem Check_off (b c : Nat) (x y : Fp) (w : World) (hb : b < w.heap.size) (hc : c < w.heap.size) (hx : Elt w b 0 x) (hy : Elt w c 0 y) (ho : ¬ Onc x y) : Calls Try.prog 71 #[.pointer (some ⟨b, 0, none⟩), .pointer (some ⟨c, 0, none⟩)] w fun e w' => (∃ t u, e = .returned (.iface t u)) ∧ Ext w w' := by
  have H := Lib.hid (And.intro hb (And.intro hc (And.intro hx hy)))
  have HO := Lib.hid ho
  clear hb hc hx hy ho
  go_enter Try.func71, Try.ntmps71
  go_wp2_with (first
    | (go_at_call 69; go_must (refine (Poly_any w.heap.size 0 b 0 x (w.alloc (.cells #[.int .u64 0, .int .u64 0, .int .u64 0, .int .u64 0] 95)) (by simp [size_alloc]) (size_al H.out.1 _) (Free.newWords (cs := #[.int .u64 0, .int .u64 0, .int .u64 0, .int .u64 0]) rfl rfl) (H.out.2.2.1.alloc H.out.1 _) (apart0_ne (Nat.ne_of_lt H.out.1))).mono ?_); rintro e w1 ⟨rfl, hT, hE⟩; have H1 := Lib.hid (And.intro hT hE); have hl1 := Lib.hid (show w.heap.size < w1.heap.size from hT.lt (by simp [size_alloc])); have hc1 := Lib.hid (show c < w1.heap.size from hT.lt (size_al H.out.2.1 _)); clear hT hE)
    | (go_at_call 72; go_must (refine (Elm_Square w1.heap.size 0 c 0 y (w1.alloc (.cells #[.int .u64 0, .int .u64 0, .int .u64 0, .int .u64 0] 95)) (by simp [size_alloc]) (size_al hc1.out _) (Free.newWords (cs := #[.int .u64 0, .int .u64 0, .int .u64 0, .int .u64 0]) rfl rfl) (Elt.alloc ((H.out.2.2.2.alloc H.out.2.1 _).far H1.out.1 (size_al H.out.2.1 _) (.inl (Nat.ne_of_lt H.out.2.1))) hc1.out _)).mono ?_); rintro e w2 ⟨rfl, hT, hE⟩; have H2 := Lib.hid (And.intro hT hE); clear hT hE)
    | (go_at_call 87; go_must (refine (Equal_any w.heap.size 0 w1.heap.size 0 _ _ w2 (H2.out.1.lt (size_al hl1.out _)) (H2.out.1.lt (by simp [size_alloc])) ((H1.out.2.alloc hl1.out _).far H2.out.1 (size_al hl1.out _) (.inl (Nat.ne_of_lt hl1.out))) H2.out.2).mono ?_); rintro e w3 ⟨he, hE3⟩; rw [if_neg (fun h => HO.out ((onc_iff x y).1 h))] at he; subst he; have H3 := Lib.hid hE3; clear hE3)
    | (go_at_call 75; go_must (refine (errorsNew_any _ _).mono ?_); rintro e w4 ⟨⟨t, u, rfl⟩, hE4⟩; have H4 := Lib.hid hE4; clear hE4))
  exact bodyPost_ret (v := .iface t u) (by simp [results, Try.results71, go_sem]) rfl ⟨⟨t, u, rfl⟩, ((Turned.ext_of_new ((Turned.ext_of_new (Ext.al _ _) H1.out.1 (Nat.le_refl _)).trans (Ext.al _ _)) H2.out.1 (Nat.le_of_lt hl1.out)).trans H3.out).trans H4.out⟩
set_option maxHeartbeats 1000000 in
set_option maxRecDepth 100000 in
theorem ZZOn_on (b c : Nat) (x y : Fp) (w : World) (hb : b < w.heap.size) (hc : c < w.heap.size) (hx : Elt w b 0 x) (hy : Elt w c 0 y) (ho : Onc x y) : Calls Try.prog 52 #[.pointer (some ⟨b, 0, none⟩), .pointer (some ⟨c, 0, none⟩)] w fun e w' => e = .returned .nilIface ∧ Ext w w' := by
  go_enter Try.func52, Try.ntmps52
  go_wp2_with (first
    | (go_at_call 71; go_must (refine (Check_on b c x y w hb hc hx hy ho).mono ?_); rintro e w1 ⟨rfl, hE⟩; have H1 := Lib.hid hE; clear hE))
  exact bodyPost_ret (v := .nilIface) (by simp [results, Try.results52, go_sem]) rfl ⟨rfl, H1.out⟩
set_option maxHeartbeats 1000000 in
set_option maxRecDepth 100000 in
theorem ZZOn_off (b c : Nat) (x y : Fp) (w : World) (hb : b < w.heap.size) (hc : c < w.heap.size) (hx : Elt w b 0 x) (hy : Elt w c 0 y) (ho : ¬ Onc x y) : Calls Try.prog 52 #[.pointer (some ⟨b, 0, none⟩), .pointer (some ⟨c, 0, none⟩)] w fun e w' => (∃ t u, e = .returned (.iface t u)) ∧ Ext w w' := by
  go_enter Try.func52, Try.ntmps52
  go_wp2_with (first
    | (go_at_call 71; go_must (refine (Check_off b c x y w hb hc hx hy ho).mono ?_); rintro e w1 ⟨⟨t, u, rfl⟩, hE⟩; have H1 := Lib.hid hE; clear hE))
  exact bodyPost_ret (v := .iface t u) (by simp [results, Try.results52, go_sem]) rfl ⟨⟨t, u, rfl⟩, H1.out⟩
set_option maxHeartbeats 1000000 in
set_option maxRecDepth 100000 in
theorem OnCurve_on (x y : Fp) (ho : Onc x y) (w : World) : Calls Try.prog 31 #[.agg (bc (x.val : Int)), .agg (bc (y.val : Int))] w fun e w' => e = .returned (.tuple #[.bool true, .bool true]) ∧ Ext w w' := by
  go_enter Try.func31, Try.ntmps31
  go_wp2_with (first
    | (have hx := hE1; (go_at_call 35; (with_reducible refine (element_good y _).mono ?_); rintro e w2 ⟨b2, rfl, hg2, hb2, hE2, hf2, he2⟩))
    | (go_at_call 35; (with_reducible refine (element_good x _).mono ?_); rintro e w1 ⟨b1, rfl, hg1, hb1, hE1, hf1, he1⟩)
    | (go_at_call 52; go_must (refine (ZZOn_on b1 b2 x y w2 (hE2.lt hb1) hb2 (hE2.elt hb1 he1) he2 ho).mono ?_); rintro e w3 ⟨rfl, hE3⟩)
    | (first
      | (refine wpList_load_rowW rfl 22 _ rfl _ rfl _ _ _ _ (by (with_reducible first | assumption | (simp only [hsA, setRow_heap]; first | done | rfl) | (repeat (first | assumption | (refine heap_at _ _ _ ?_; simp only [hsA, setRow_heap]; done) | refine ext_row (Ext.al _ _) ?_ | refine ext_row (Ext.gr _ _) ?_ | refine ext_row (by assumption) ?_)))) Try.underlying22 rfl (inB _) ?_)
      | (refine wpList_load_partW rfl 22 _ rfl _ _ rfl _ _ _ (by (with_reducible first | assumption | (simp only [hsA, setRow_heap]; first | done | rfl) | (repeat (first | assumption | (refine heap_at _ _ _ ?_; simp only [hsA, setRow_heap]; done) | refine ext_row (Ext.al _ _) ?_ | refine ext_row (Ext.gr _ _) ?_ | refine ext_row (by assumption) ?_)))) _ (by first | with_reducible exact pc_x _ _ _ | with_reducible exact pc_y _ _ _ | with_reducible exact tc_x _ _ _ | with_reducible exact tc_y _ _ _ | with_reducible exact tc_z _ _ _) _ Try.underlying22 rfl (inB _) ?_)
      | (refine wpList_store_rowW rfl 22 _ _ rfl _ _ rfl rfl _ _ (by (with_reducible first | assumption | (simp only [hsA, setRow_heap]; first | done | rfl) | (repeat (first | assumption | (refine heap_at _ _ _ ?_; simp only [hsA, setRow_heap]; done) | refine ext_row (Ext.al _ _) ?_ | refine ext_row (Ext.gr _ _) ?_ | refine ext_row (by assumption) ?_)))) (inB _) (by simp only [ec_size, bc_size, pc_size, tc_size, ec_size, bc_size, pc_size, tc_size]; try rfl) (bc_one _) ?_; (try simp only [nmA]))))
  refine bodyPost_ret (v := .tuple #[.bool true, .bool true]) (by simp [results, Try.results31, go_sem]) rfl ⟨rfl, ?_⟩
  (repeat (first | exact Ext.refl _ | assumption | exact hE6 .. | refine Ext.trans ?_ (Ext.al _ _) | refine Ext.trans ?_ (Ext.gr _ _) | refine Ext.trans ?_ (by with_reducible assumption) | refine Ext.setRow ?_ (by first | omega | (simp <;> omega)) _))
set_option maxHeartbeats 1000000 in
set_option maxRecDepth 100000 in
theorem OnCurve_off (x y : Fp) (ho : ¬ Onc x y) (w : World) : Calls Try.prog 31 #[.agg (bc (x.val : Int)), .agg (bc (y.val : Int))] w fun e w' => e = .returned (.tuple #[.bool false, .bool true]) ∧ Ext w w' := by
  go_enter Try.func31, Try.ntmps31
  go_wp2_with (first
    | (have hx := hE1; (go_at_call 35; (with_reducible refine (element_good y _).mono ?_); rintro e w2 ⟨b2, rfl, hg2, hb2, hE2, hf2, he2⟩))
    | (go_at_call 35; (with_reducible refine (element_good x _).mono ?_); rintro e w1 ⟨b1, rfl, hg1, hb1, hE1, hf1, he1⟩)
    | (go_at_call 52; go_must (refine (ZZOn_off b1 b2 x y w2 (hE2.lt hb1) hb2 (hE2.elt hb1 he1) he2 ho).mono ?_); rintro e w3 ⟨⟨t, u, rfl⟩, hE3⟩)
    | (first
      | (refine wpList_load_rowW rfl 22 _ rfl _ rfl _ _ _ _ (by (with_reducible first | assumption | (simp only [hsA, setRow_heap]; first | done | rfl) | (repeat (first | assumption | (refine heap_at _ _ _ ?_; simp only [hsA, setRow_heap]; done) | refine ext_row (Ext.al _ _) ?_ | refine ext_row (Ext.gr _ _) ?_ | refine ext_row (by assumption) ?_)))) Try.underlying22 rfl (inB _) ?_)
      | (refine wpList_load_partW rfl 22 _ rfl _ _ rfl _ _ _ (by (with_reducible first | assumption | (simp only [hsA, setRow_heap]; first | done | rfl) | (repeat (first | assumption | (refine heap_at _ _ _ ?_; simp only [hsA, setRow_heap]; done) | refine ext_row (Ext.al _ _) ?_ | refine ext_row (Ext.gr _ _) ?_ | refine ext_row (by assumption) ?_)))) _ (by first | with_reducible exact pc_x _ _ _ | with_reducible exact pc_y _ _ _ | with_reducible exact tc_x _ _ _ | with_reducible exact tc_y _ _ _ | with_reducible exact tc_z _ _ _) _ Try.underlying22 rfl (inB _) ?_)
      | (refine wpList_store_rowW rfl 22 _ _ rfl _ _ rfl rfl _ _ (by (with_reducible first | assumption | (simp only [hsA, setRow_heap]; first | done | rfl) | (repeat (first | assumption | (refine heap_at _ _ _ ?_; simp only [hsA, setRow_heap]; done) | refine ext_row (Ext.al _ _) ?_ | refine ext_row (Ext.gr _ _) ?_ | refine ext_row (by assumption) ?_)))) (inB _) (by simp only [ec_size, bc_size, pc_size, tc_size, ec_size, bc_size, pc_size, tc_size]; try rfl) (bc_one _) ?_; (try simp only [nmA]))))
  refine bodyPost_ret (v := .tuple #[.bool false, .bool true]) (by simp [results, Try.results31, go_sem]) rfl ⟨rfl, ?_⟩
  (repeat (first | exact Ext.refl _ | assumption | exact hE6 .. | refine Ext.trans ?_ (Ext.al _ _) | refine Ext.trans ?_ (Ext.gr _ _) | refine Ext.trans ?_ (by with_reducible assumption) | refine Ext.setRow ?_ (by first | omega | (simp <;> omega)) _))
theorem element_any (X : Int) (h0 : 0 ≤ X) (h1 : X < R256) (w : World) : Calls Try.prog 35 #[.agg (bc X)] w fun e w' => ∃ p, e = .returned (.tuple #[.pointer p, .bool (decide (X < pI))]) ∧ Ext w w' := by
  by_cases hp : X < pI
  · obtain ⟨x, rfl⟩ : ∃ x : Fp, X = (x.val : Int) := ⟨zf X, by rw [zf_val, Int.emod_eq_of_lt h0 hp]⟩
    refine (element_good x w).mono ?_
    rintro e w' ⟨b, rfl, _, _, hE, _, _⟩
    exact ⟨_, by rw [decide_eq_true hp], hE⟩
  · refine (element_bad X h0 h1 hp w).mono ?_
    rintro e w' ⟨rfl, hE⟩
    exact ⟨_, by rw [decide_eq_false hp], hE⟩
set_option maxHeartbeats 1000000 in
set_option maxRecDepth 100000 in
theorem OnCurve_bad1 (X Y : Int) (o : Bool) (hX : ∀ w, Calls Try.prog 35 #[.agg (bc X)] w fun e w' => ∃ p, e = .returned (.tuple #[.pointer p, .bool false]) ∧ Ext w w') (hY : ∀ w, Calls Try.prog 35 #[.agg (bc Y)] w fun e w' => ∃ p, e = .returned (.tuple #[.pointer p, .bool o]) ∧ Ext w w') (w : World) : Calls Try.prog 31 #[.agg (bc X), .agg (bc Y)] w fun e w' => e = .returned (.tuple #[.bool false, .bool false]) ∧ Ext w w' := by
  have HX := Lib.hid hX
  have HY := Lib.hid hY
  clear hX hY
  go_enter Try.func31, Try.ntmps31
  go_wp2_with (first
    | (go_at_call 35; (have hx := hE1; (with_reducible refine (HY.out _).mono ?_); rintro e w2 ⟨p2, rfl, hE2⟩))
    | (go_at_call 35; (with_reducible refine (HX.out _).mono ?_); rintro e w1 ⟨p1, rfl, hE1⟩)
    | (first
      | (refine wpList_load_rowW rfl 22 _ rfl _ rfl _ _ _ _ (by (with_reducible first | assumption | (simp only [hsA, setRow_heap]; first | done | rfl) | (repeat (first | assumption | (refine heap_at _ _ _ ?_; simp only [hsA, setRow_heap]; done) | refine ext_row (Ext.al _ _) ?_ | refine ext_row (Ext.gr _ _) ?_ | refine ext_row (by assumption) ?_)))) Try.underlying22 rfl (inB _) ?_)
      | (refine wpList_load_partW rfl 22 _ rfl _ _ rfl _ _ _ (by (with_reducible first | assumption | (simp only [hsA, setRow_heap]; first | done | rfl) | (repeat (first | assumption | (refine heap_at _ _ _ ?_; simp only [hsA, setRow_heap]; done) | refine ext_row (Ext.al _ _) ?_ | refine ext_row (Ext.gr _ _) ?_ | refine ext_row (by assumption) ?_)))) _ (by first | with_reducible exact pc_x _ _ _ | with_reducible exact pc_y _ _ _ | with_reducible exact tc_x _ _ _ | with_reducible exact tc_y _ _ _ | with_reducible exact tc_z _ _ _) _ Try.underlying22 rfl (inB _) ?_)
      | (refine wpList_store_rowW rfl 22 _ _ rfl _ _ rfl rfl _ _ (by (with_reducible first | assumption | (simp only [hsA, setRow_heap]; first | done | rfl) | (repeat (first | assumption | (refine heap_at _ _ _ ?_; simp only [hsA, setRow_heap]; done) | refine ext_row (Ext.al _ _) ?_ | refine ext_row (Ext.gr _ _) ?_ | refine ext_row (by assumption) ?_)))) (inB _) (by simp only [ec_size, bc_size, pc_size, tc_size, ec_size, bc_size, pc_size, tc_size]; try rfl) (bc_one _) ?_; (try simp only [nmA]))))
  refine bodyPost_ret (v := .tuple #[.bool false, .bool false]) (by simp [results, Try.results31, go_sem]) rfl ⟨rfl, ?_⟩
  (repeat (first | exact Ext.refl _ | assumption | exact hE6 .. | refine Ext.trans ?_ (Ext.al _ _) | refine Ext.trans ?_ (Ext.gr _ _) | refine Ext.trans ?_ (by with_reducible assumption) | refine Ext.setRow ?_ (by first | omega | (simp <;> omega)) _))
set_option maxHeartbeats 1000000 in
set_option maxRecDepth 100000 in
theorem OnCurve_bad2 (X Y : Int)  (hX : ∀ w, Calls Try.prog 35 #[.agg (bc X)] w fun e w' => ∃ p, e = .returned (.tuple #[.pointer p, .bool true]) ∧ Ext w w') (hY : ∀ w, Calls Try.prog 35 #[.agg (bc Y)] w fun e w' => ∃ p, e = .returned (.tuple #[.pointer p, .bool false]) ∧ Ext w w') (w : World) : Calls Try.prog 31 #[.agg (bc X), .agg (bc Y)] w fun e w' => e = .returned (.tuple #[.bool false, .bool false]) ∧ Ext w w' := by
  have HX := Lib.hid hX
  have HY := Lib.hid hY
  clear hX hY
  go_enter Try.func31, Try.ntmps31
  go_wp2_with (first
    | (go_at_call 35; (have hx := hE1; (with_reducible refine (HY.out _).mono ?_); rintro e w2 ⟨p2, rfl, hE2⟩))
    | (go_at_call 35; (with_reducible refine (HX.out _).mono ?_); rintro e w1 ⟨p1, rfl, hE1⟩)
    | (first
      | (refine wpList_load_rowW rfl 22 _ rfl _ rfl _ _ _ _ (by (with_reducible first | assumption | (simp only [hsA, setRow_heap]; first | done | rfl) | (repeat (first | assumption | (refine heap_at _ _ _ ?_; simp only [hsA, setRow_heap]; done) | refine ext_row (Ext.al _ _) ?_ | refine ext_row (Ext.gr _ _) ?_ | refine ext_row (by assumption) ?_)))) Try.underlying22 rfl (inB _) ?_)
      | (refine wpList_load_partW rfl 22 _ rfl _ _ rfl _ _ _ (by (with_reducible first | assumption | (simp only [hsA, setRow_heap]; first | done | rfl) | (repeat (first | assumption | (refine heap_at _ _ _ ?_; simp only [hsA, setRow_heap]; done) | refine ext_row (Ext.al _ _) ?_ | refine ext_row (Ext.gr _ _) ?_ | refine ext_row (by assumption) ?_)))) _ (by first | with_reducible exact pc_x _ _ _ | with_reducible exact pc_y _ _ _ | with_reducible exact tc_x _ _ _ | with_reducible exact tc_y _ _ _ | with_reducible exact tc_z _ _ _) _ Try.underlying22 rfl (inB _) ?_)
      | (refine wpList_store_rowW rfl 22 _ _ rfl _ _ rfl rfl _ _ (by (with_reducible first | assumption | (simp only [hsA, setRow_heap]; first | done | rfl) | (repeat (first | assumption | (refine heap_at _ _ _ ?_; simp only [hsA, setRow_heap]; done) | refine ext_row (Ext.al _ _) ?_ | refine ext_row (Ext.gr _ _) ?_ | refine ext_row (by assumption) ?_)))) (inB _) (by simp only [ec_size, bc_size, pc_size, tc_size, ec_size, bc_size, pc_size, tc_size]; try rfl) (bc_one _) ?_; (try simp only [nmA]))))
  refine bodyPost_ret (v := .tuple #[.bool false, .bool false]) (by simp [results, Try.results31, go_sem]) rfl ⟨rfl, ?_⟩
  (repeat (first | exact Ext.refl _ | assumption | exact hE6 .. | refine Ext.trans ?_ (Ext.al _ _) | refine Ext.trans ?_ (Ext.gr _ _) | refine Ext.trans ?_ (by with_reducible assumption) | refine Ext.setRow ?_ (by first | omega | (simp <;> omega)) _))
end Go.Proofs.Ytbdmicmohopmaaa
