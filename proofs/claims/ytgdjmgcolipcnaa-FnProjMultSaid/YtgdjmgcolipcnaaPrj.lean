/-
  What is proved here: what making a point of three coordinates returns, and what telling it returns.
  Conditions: those of each theorem.
-/
import Derived.Test.YtgdjmgcolipcnaaProg
import Derived.Test.YtgdjmgcolipcnaaClonePrjA
import Derived.Deep.RegionHeld3
import Derived.WalkKit
import Derived.WalkSpells
import Derived.Outline
import Derived.Handy
import Derived.ProofKit
import Derived.Deep.QuietTactic
import Derived.BigQuiet
import Derived.Lib.Hide
import Derived.OpenShut
namespace Go.Proofs.Ytgdjmgcolipcnaa
open Go Go.RowKit Ecp
set_option linter.unusedSimpArgs false
set_option linter.unusedVariables false

set_option maxHeartbeats 1000000 in
set_option maxRecDepth 100000 in
theorem NewPoint_any (w : World) : Calls Try.prog 16 #[] w fun e w' => e = .returned (.pointer (some ⟨w.heap.size, 0, none⟩)) ∧ w.heap.size < w'.heap.size ∧ Ext w w' ∧ Free w' w.heap.size 0 12 ∧ Pnt w' w.heap.size 0 0 1 0 := by
  go_enter Try.func16, Try.ntmps16
  go_wp2_with (go_at_call 25; go_must (refine (Elm_One w.heap.size 4 _ (by simp [size_alloc]) ((Free.newWords (len := 12) rfl rfl).sub (by decide) (by decide))).mono ?_); rintro e w1 ⟨rfl, hT, hE⟩; have H1 := Lib.hid (And.intro hT hE); clear hT hE)
  have hrow := heap_at w (.cells (List.replicate 12 (Value.int .u64 0)).toArray 64) _ rfl
  have hf : Free (w.alloc (.cells (List.replicate 12 (Value.int .u64 0)).toArray 64)) w.heap.size 0 12 := Free.newWords rfl rfl
  have hlt : w.heap.size < (w.alloc (.cells (List.replicate 12 (Value.int .u64 0)).toArray 64)).heap.size := by simp [size_alloc]
  refine bodyPost_ret (v := .pointer (some ⟨w.heap.size, 0, none⟩)) (by simp [results, Try.results16, go_sem]) rfl ⟨rfl, H1.out.1.lt (by simp [size_alloc]), Turned.ext_of_new (Ext.al _ _) H1.out.1 (Nat.le_refl _), Free.turned hf H1.out.1 H1.out.2 hlt, (Elt.zero (o := 0) _ hrow (by decide)).far H1.out.1 hlt (.inr (by decide)), H1.out.2, (Elt.zero (o := 8) _ hrow (by decide)).far H1.out.1 hlt (.inr (by decide))⟩
set_option maxHeartbeats 2000000 in
set_option maxRecDepth 100000 in
theorem SetProj_any (b c1 c2 c3 k1 k2 k3 : Nat) (x y z : Fp) (w : World) (hb : b < w.heap.size) (h1 : c1 < w.heap.size) (h2 : c2 < w.heap.size) (h3 : c3 < w.heap.size) (n1 : c1 ≠ b) (n2 : c2 ≠ b) (n3 : c3 ≠ b) (hf : Free w b 0 12)
    (hx : Held .u8 w c1 0 (bds 32 (x.val : Int)).reverse) (hy : Held .u8 w c2 0 (bds 32 (y.val : Int)).reverse) (hz : Held .u8 w c3 0 (bds 32 (z.val : Int)).reverse) :
    Calls Try.prog 23 #[.pointer (some ⟨b, 0, none⟩), .slice (some ⟨c1, 0, none⟩) 32 k1, .slice (some ⟨c2, 0, none⟩) 32 k2, .slice (some ⟨c3, 0, none⟩) 32 k3] w fun e w' => e = .returned .nilIface ∧ Turned b 0 12 w w' ∧ Free w' b 0 12 ∧ Pnt w' b 0 x y z := by
  have H := Lib.hid (And.intro hb (And.intro hf (And.intro h1 (And.intro h2 (And.intro h3 (And.intro hx (And.intro hy (And.intro hz (And.intro n1 (And.intro n2 n3))))))))))
  clear hb hf h1 h2 h3 hx hy hz n1 n2 n3
  have S : ∀ (x : Fp) (o c k : Nat) (w : World) (hb : b < w.heap.size) (hc : c < w.heap.size) (hf : Free w b o 4) (h : Held .u8 w c 0 (bds 32 (x.val : Int)).reverse), Calls Try.prog 40 #[.pointer (some ⟨b, o, none⟩), .slice (some ⟨c, 0, none⟩) 32 k] w fun e w' => e = .returned (.tuple #[.pointer (some ⟨b, o, none⟩), .nilIface]) ∧ Turned b o 4 w w' ∧ Elt w' b o x := fun x o c k w hb hc hf h => by
    have e : be (bds 32 (x.val : Int)).reverse = (x.val : Int) := be_bc (fv_bd x).1 (fv_bd x).2
    have := SetBytes_pre b o c 0 k _ (rev_len _) (rev_bd _) (by rw [e]; exact fv_lt x) w hb hc hf h
    rw [e, zf_nat] at this
    exact this
  have HS := Lib.hid S
  clear S
  go_enter Try.func23, Try.ntmps23
  go_wp2_with (go_at_call 40; first
    | ((with_reducible refine (HS.out x 0 c1 k1 w H.out.1 H.out.2.2.1 (H.out.2.1.sub (by decide) (by decide)) H.out.2.2.2.2.2.1).mono ?_); rintro e w1 ⟨rfl, hT, hE⟩; have H1 := Lib.hid (And.intro hT hE); clear hT hE)
    | ((with_reducible refine (HS.out y 4 c2 k2 w1 (H1.out.1.lt H.out.1) (H1.out.1.lt H.out.2.2.2.1) ((H.out.2.1.turned H1.out.1 H1.out.2 H.out.1).sub (by decide) (by decide)) (H.out.2.2.2.2.2.2.1.far H1.out.1 H.out.2.2.2.1 (.inl H.out.2.2.2.2.2.2.2.2.2.1))).mono ?_); rintro e w2 ⟨rfl, hT, hE⟩; have H2 := Lib.hid (And.intro hT hE); clear hT hE)
    | ((with_reducible refine (HS.out z 8 c3 k3 w2 (H2.out.1.lt (H1.out.1.lt H.out.1)) (H2.out.1.lt (H1.out.1.lt H.out.2.2.2.2.1)) (((H.out.2.1.turned H1.out.1 H1.out.2 H.out.1).turned H2.out.1 H2.out.2 (H1.out.1.lt H.out.1)).sub (by decide) (by decide)) ((H.out.2.2.2.2.2.2.2.1.far H1.out.1 H.out.2.2.2.2.1 (.inl H.out.2.2.2.2.2.2.2.2.2.2)).far H2.out.1 (H1.out.1.lt H.out.2.2.2.2.1) (.inl H.out.2.2.2.2.2.2.2.2.2.2))).mono ?_); rintro e w3 ⟨rfl, hT, hE⟩; have H3 := Lib.hid (And.intro hT hE); clear hT hE))
  refine bodyPost_ret (v := .nilIface) (by simp [results, Try.results23, go_sem]) rfl ⟨rfl, ?_⟩
  have l0 := H.out.1
  have l1 := H1.out.1.lt l0
  have l2 := H2.out.1.lt l1
  have f1 := H.out.2.1.turned H1.out.1 H1.out.2 l0
  have f2 := f1.turned H2.out.1 H2.out.2 l1
  exact ⟨((H1.out.1.part (by decide) (by decide)).trans (H2.out.1.part (by decide) (by decide))).trans (H3.out.1.part (by decide) (by decide)), f2.turned H3.out.1 H3.out.2 l2,
    (H1.out.2.far H2.out.1 l1 (.inr (by decide))).far H3.out.1 l2 (.inr (by decide)), H2.out.2.far H3.out.1 l2 (.inr (by decide)), H3.out.2⟩
set_option maxHeartbeats 2000000 in
set_option maxRecDepth 100000 in
theorem Projective_any (b : Nat) (x y z : Fp) (w : World) (hb : b < w.heap.size) (h : Pnt w b 0 x y z) :
    Calls Try.prog 34 #[.pointer (some ⟨b, 0, none⟩)] w fun e w' => ∃ c1 c2 c3, e = .returned (.tuple #[.slice (some ⟨c1, 0, none⟩) 32 32, .slice (some ⟨c2, 0, none⟩) 32 32, .slice (some ⟨c3, 0, none⟩) 32 32]) ∧ Ext w w' ∧
      Held .u8 w' c1 0 (bds 32 (x.val : Int)).reverse ∧ Held .u8 w' c2 0 (bds 32 (y.val : Int)).reverse ∧ Held .u8 w' c3 0 (bds 32 (z.val : Int)).reverse ∧ c1 < w'.heap.size ∧ c2 < w'.heap.size ∧ c3 < w'.heap.size := by
  have H := Lib.hid (And.intro hb h)
  clear hb h
  go_enter Try.func34, Try.ntmps34
  go_wp2
  obtain ⟨v0, hv0⟩ : ∃ v0, w.cell? ⟨b, 0, none⟩ = some v0 := ⟨_, H.out.2.1 0 _ rfl⟩
  have hbd : b < w.drew.heap.size := H.out.1
  have e1 : Elt w.drew b 0 x := H.out.2.1
  have e2 : Elt w b 4 y := H.out.2.2.1
  have e3 : Elt w b 8 z := H.out.2.2.2
  have HB := Lib.hid (And.intro hbd (And.intro e1 (And.intro e2 e3)))
  clear hbd e1 e2 e3
  go_region_held3 (fun w' => w'.cell? ⟨b, 0, none⟩ = some v0) (first | assumption | exact hv0) (first
    | (go_at_call 55; (with_reducible refine (Bytes_any b 0 x w.drew HB.out.1 HB.out.2.1).mono ?_); rintro e w1 ⟨rfl, hE, hl, hh⟩; have k1 := cell_ext' hE hv0; have H1 := Lib.hid (And.intro (Ext.of_drew hE) (And.intro hl hh)); clear hE hl hh)
    | (go_at_call 55; (with_reducible refine (Bytes_any b 4 y w1 (H1.out.1.lt H.out.1) (H1.out.1.elt H.out.1 HB.out.2.2.1)).mono ?_); rintro e w2 ⟨rfl, hE, hl, hh⟩; have k2 := cell_ext' hE k1; have H2 := Lib.hid (And.intro hE (And.intro hl hh)); clear hE hl hh)
    | (go_at_call 55; (with_reducible refine (Bytes_any b 8 z w2 (H2.out.1.lt (H1.out.1.lt H.out.1)) ((H1.out.1.trans H2.out.1).elt H.out.1 HB.out.2.2.2)).mono ?_); rintro e w3 ⟨rfl, hE, hl, hh⟩; have k3 := cell_ext' hE k2; have H3 := Lib.hid (And.intro hE (And.intro hl hh)); clear hE hl hh))
  go_wp2
  refine bodyPost_ret (v := .tuple #[.slice (some ⟨w.drew.heap.size, 0, none⟩) 32 32, .slice (some ⟨w1.heap.size, 0, none⟩) 32 32, .slice (some ⟨w2.heap.size, 0, none⟩) 32 32]) (by simp [results, Try.results34, go_sem]) rfl ⟨_, _, _, rfl, (H1.out.1.trans H2.out.1).trans H3.out.1, ?_⟩
  have l1 := H2.out.1.lt H1.out.2.1
  exact ⟨H3.out.1.held l1 (H2.out.1.held H1.out.2.1 H1.out.2.2), H3.out.1.held H2.out.2.1 H2.out.2.2, H3.out.2.2, H3.out.1.lt l1, H3.out.1.lt H2.out.2.1, H3.out.2.1⟩
set_option maxHeartbeats 1000000 in
set_option maxRecDepth 100000 in
theorem triple_any (b : Nat) (x y z : Fp) (w : World) (hb : b < w.heap.size) (h : Pnt w b 0 x y z) :
    Calls Try.prog 18 #[.pointer (some ⟨b, 0, none⟩)] w fun e w' => e = .returned (.agg (tc (x.val : Int) (y.val : Int) (z.val : Int))) ∧ Ext w w' := by
  have H := Lib.hid (And.intro hb h)
  clear hb h
  go_enter Try.func18, Try.ntmps18
  go_wp2_with (first
    | (refine wpList_alloc_row rfl 24 _ rfl zeroT ?_)
    | (go_at_call 34; go_must (refine (Projective_any b x y z _ ((Ext.al _ _).lt H.out.1) ((Ext.al _ _).pnt H.out.1 H.out.2)).mono ?_); rintro e w1 ⟨c1, c2, c3, rfl, hE, h1, h2, h3, l1, l2, l3⟩; have hq := ext_row hE (heap_at w (.cells (tc 0 0 0) 24) _ rfl); have HE := Lib.hid hE; clear hE)
    | (first
      | (refine wpList_load_rowW rfl 24 _ rfl _ rfl _ _ _ _ (by (first | with_reducible assumption | (simp only [heap_at, heap_past, heap_ext, heap_drewN', setRow_size, setRow_heap, size_alloc, size_drewN', size_ext, ltA0, eqA0, qeA0, ltA1, eqA1, qeA1, ltA2, eqA2, qeA2, ltA3, eqA3, qeA3, ltA4, eqA4, qeA4, ltA5, eqA5, qeA5, ltA6, eqA6, qeA6, ltA7, eqA7, qeA7, ltA8, eqA8, qeA8]; with_reducible rfl) | (with_reducible repeat (first | assumption | (refine heap_at _ _ _ ?_; simp only [heap_at, heap_past, heap_ext, heap_drewN', setRow_size, setRow_heap, size_alloc, size_drewN', size_ext, ltA0, eqA0, qeA0, ltA1, eqA1, qeA1, ltA2, eqA2, qeA2, ltA3, eqA3, qeA3, ltA4, eqA4, qeA4, ltA5, eqA5, qeA5, ltA6, eqA6, qeA6, ltA7, eqA7, qeA7, ltA8, eqA8, qeA8]; done) | refine ext_row (Ext.al _ _) ?_ | refine ext_row (Ext.gr _ _) ?_)))) Try.underlying24 rfl (inT _ _ _) ?_)
      | (refine wpList_load_partW rfl 24 _ rfl _ _ rfl _ _ _ (by (first | with_reducible assumption | (simp only [heap_at, heap_past, heap_ext, heap_drewN', setRow_size, setRow_heap, size_alloc, size_drewN', size_ext, ltA0, eqA0, qeA0, ltA1, eqA1, qeA1, ltA2, eqA2, qeA2, ltA3, eqA3, qeA3, ltA4, eqA4, qeA4, ltA5, eqA5, qeA5, ltA6, eqA6, qeA6, ltA7, eqA7, qeA7, ltA8, eqA8, qeA8]; with_reducible rfl) | (with_reducible repeat (first | assumption | (refine heap_at _ _ _ ?_; simp only [heap_at, heap_past, heap_ext, heap_drewN', setRow_size, setRow_heap, size_alloc, size_drewN', size_ext, ltA0, eqA0, qeA0, ltA1, eqA1, qeA1, ltA2, eqA2, qeA2, ltA3, eqA3, qeA3, ltA4, eqA4, qeA4, ltA5, eqA5, qeA5, ltA6, eqA6, qeA6, ltA7, eqA7, qeA7, ltA8, eqA8, qeA8]; done) | refine ext_row (Ext.al _ _) ?_ | refine ext_row (Ext.gr _ _) ?_)))) _ (by first | with_reducible exact pc_x _ _ _ | with_reducible exact pc_y _ _ _ | with_reducible exact tc_x _ _ _ | with_reducible exact tc_y _ _ _ | with_reducible exact tc_z _ _ _) _ Try.underlying24 rfl (inT _ _ _) ?_)
      | (refine wpList_store_rowW rfl 24 _ _ rfl _ _ rfl rfl _ _ (by (first | with_reducible assumption | (simp only [heap_at, heap_past, heap_ext, heap_drewN', setRow_size, setRow_heap, size_alloc, size_drewN', size_ext, ltA0, eqA0, qeA0, ltA1, eqA1, qeA1, ltA2, eqA2, qeA2, ltA3, eqA3, qeA3, ltA4, eqA4, qeA4, ltA5, eqA5, qeA5, ltA6, eqA6, qeA6, ltA7, eqA7, qeA7, ltA8, eqA8, qeA8]; with_reducible rfl) | (with_reducible repeat (first | assumption | (refine heap_at _ _ _ ?_; simp only [heap_at, heap_past, heap_ext, heap_drewN', setRow_size, setRow_heap, size_alloc, size_drewN', size_ext, ltA0, eqA0, qeA0, ltA1, eqA1, qeA1, ltA2, eqA2, qeA2, ltA3, eqA3, qeA3, ltA4, eqA4, qeA4, ltA5, eqA5, qeA5, ltA6, eqA6, qeA6, ltA7, eqA7, qeA7, ltA8, eqA8, qeA8]; done) | refine ext_row (Ext.al _ _) ?_ | refine ext_row (Ext.gr _ _) ?_)))) (inT _ _ _) (by simp only [ec_size, bc_size, pc_size, tc_size, ec_size, bc_size, pc_size, tc_size]; try rfl) (tc_one _ _ _) ?_; (try simp only [setRow_size, setRow_drewN, setRow_drew, setRow_alloc_at, setRow_alloc_past, setRow_ext, size_alloc, size_drewN', size_ext, ltA0, ltA1, ltA2, ltA3, ltA4, ltA5, ltA6, ltA7, ltA8]))
      | (refine wpList_buildW rfl _ _ rfl _ (by rw [Array.toList_map]; first | exact builtP _ _ | exact builtF | exact builtZ | exact builtE | exact builtT _ _ _ | exact builtT0 | exact builtB0) ?_)
      | (refine wp_grow_tail (l := [_, _, _, _, _, _, _, _, _, _, _]) 10 (by kernel_rfl) (by kernel_rfl) ?_; simp only [List.take_succ_cons, List.take_zero, List.drop_succ_cons, List.drop_zero]; (try simp only [act_put_none]); (repeat (first | (go_big_quiet_want; refine quiet_s2ap 22 _ rfl _ _ _ _ Try.underlying22 rfl ?_; go_simp; go_big_quiet_on) | (go_big_quiet_want; refine quiet_load_bc 22 _ rfl _ rfl _ (by rintro _ ⟨g9, rfl⟩; first | exact Ext.held (Ext.gr _ _) l1 h1 | exact Ext.held (Ext.gr _ _) l2 h2 | exact Ext.held (Ext.gr _ _) l3 h3) _ Try.underlying22 rfl (inB _) ?_; go_simp; go_big_quiet_on) | go_big_quiet_skip | (go_big_quiet_want; refine quiet_load_row 24 _ rfl _ rfl _ _ _ _ (by rintro _ ⟨g9, rfl⟩; refine ext_row ⟨g9, rfl⟩ ?_; (first | with_reducible assumption | (simp only [heap_at, heap_past, heap_ext, heap_drewN', setRow_size, setRow_heap, size_alloc, size_drewN', size_ext, ltA0, eqA0, qeA0, ltA1, eqA1, qeA1, ltA2, eqA2, qeA2, ltA3, eqA3, qeA3, ltA4, eqA4, qeA4, ltA5, eqA5, qeA5, ltA6, eqA6, qeA6, ltA7, eqA7, qeA7, ltA8, eqA8, qeA8]; with_reducible rfl) | (with_reducible repeat (first | assumption | (refine heap_at _ _ _ ?_; simp only [heap_at, heap_past, heap_ext, heap_drewN', setRow_size, setRow_heap, size_alloc, size_drewN', size_ext, ltA0, eqA0, qeA0, ltA1, eqA1, qeA1, ltA2, eqA2, qeA2, ltA3, eqA3, qeA3, ltA4, eqA4, qeA4, ltA5, eqA5, qeA5, ltA6, eqA6, qeA6, ltA7, eqA7, qeA7, ltA8, eqA8, qeA8]; done) | refine ext_row (Ext.al _ _) ?_ | refine ext_row (Ext.gr _ _) ?_)))) Try.underlying24 rfl (inT _ _ _) ?_; go_simp; go_big_quiet_on) | (go_big_quiet_want; refine quiet_load_part 24 _ rfl _ _ rfl _ _ _ (by rintro _ ⟨g9, rfl⟩; refine ext_row ⟨g9, rfl⟩ ?_; (first | with_reducible assumption | (simp only [heap_at, heap_past, heap_ext, heap_drewN', setRow_size, setRow_heap, size_alloc, size_drewN', size_ext, ltA0, eqA0, qeA0, ltA1, eqA1, qeA1, ltA2, eqA2, qeA2, ltA3, eqA3, qeA3, ltA4, eqA4, qeA4, ltA5, eqA5, qeA5, ltA6, eqA6, qeA6, ltA7, eqA7, qeA7, ltA8, eqA8, qeA8]; with_reducible rfl) | (with_reducible repeat (first | assumption | (refine heap_at _ _ _ ?_; simp only [heap_at, heap_past, heap_ext, heap_drewN', setRow_size, setRow_heap, size_alloc, size_drewN', size_ext, ltA0, eqA0, qeA0, ltA1, eqA1, qeA1, ltA2, eqA2, qeA2, ltA3, eqA3, qeA3, ltA4, eqA4, qeA4, ltA5, eqA5, qeA5, ltA6, eqA6, qeA6, ltA7, eqA7, qeA7, ltA8, eqA8, qeA8]; done) | refine ext_row (Ext.al _ _) ?_ | refine ext_row (Ext.gr _ _) ?_)))) _ (by first | with_reducible exact pc_x _ _ _ | with_reducible exact pc_y _ _ _ | with_reducible exact tc_x _ _ _ | with_reducible exact tc_y _ _ _ | with_reducible exact tc_z _ _ _) _ Try.underlying24 rfl (inT _ _ _) ?_; go_simp; go_big_quiet_on) | (go_big_quiet_want; refine quiet_build _ _ rfl _ (by rw [Array.toList_map]; first | exact builtP _ _ | exact builtF | exact builtZ | exact builtE | exact builtT _ _ _ | exact builtT0 | exact builtB0) ?_; go_simp; go_big_quiet_on) | (go_big_quiet_want; go_big_quiet_op; first | go_big_quiet_on))); refine wpQuiet_nil ?_; intro _ hw'; obtain ⟨g', hw''⟩ := hw'; subst hw'')))
  refine bodyPost_ret (results_cell_row rfl _ _ _ 24 _ (0, 0) _ rfl (setRow_heap _ _ _ _ _ _ (ext_row (Ext.gr _ _) hq)) Try.underlying24 rfl (inT _ _ _)) rfl ⟨rfl, ?_⟩
  exact Ext.setRow (((Ext.al w _).trans HE.out).trans (Ext.gr _ _)) (Nat.le_refl _) _
set_option maxHeartbeats 1000000 in
set_option maxRecDepth 100000 in
theorem projected_any (x y z : Fp) (w : World) :
    Calls Try.prog 15 #[.agg (tc (x.val : Int) (y.val : Int) (z.val : Int))] w fun e w' => ∃ b, e = .returned (.tuple #[.pointer (some ⟨b, 0, none⟩), .bool true]) ∧ w.heap.size ≤ b ∧ b < w'.heap.size ∧ Ext w w' ∧ Free w' b 0 12 ∧ Pnt w' b 0 x y z := by
  go_enter Try.func15, Try.ntmps15
  go_wp2_with (go_at_call 16; go_must (refine (NewPoint_any _).mono ?_); rintro e w1 ⟨rfl, hl, hE, hf, hp⟩)
  have hn0 : w.heap.size < w1.heap.size := Nat.lt_of_le_of_lt (Nat.le_succ _) (by simpa using hl)
  have hc0 : ∀ j v, (tc (x.val : Int) (y.val : Int) (z.val : Int))[j]? = some v → w1.drew.cell? ⟨w.heap.size, j, none⟩ = some v := fun j v hv => by
    show w1.cell? _ = _
    refine cell_ext' hE ?_
    rw [cell_of_row _ _ _ _ _ _ (heap_at w (.cells (tc (x.val : Int) (y.val : Int) (z.val : Int)) 24) _ rfl)]
    exact hv
  have hcx : ∀ j, j < 32 → w1.drew.cell? ⟨w.heap.size, 0 + j, none⟩ = some (.int .u8 ((bds 32 (x.val : Int)).reverse.getD j 0)) := fun j hj => by rw [Nat.zero_add]; exact hc0 _ _ (tc_at _ _ _ j hj).1
  have hcy : ∀ j, j < 32 → w1.drew.cell? ⟨w.heap.size, 32 + j, none⟩ = some (.int .u8 ((bds 32 (y.val : Int)).reverse.getD j 0)) := fun j hj => hc0 _ _ (tc_at _ _ _ j hj).2.1
  have hcz : ∀ j, j < 32 → w1.drew.cell? ⟨w.heap.size, 64 + j, none⟩ = some (.int .u8 ((bds 32 (z.val : Int)).reverse.getD j 0)) := fun j hj => hc0 _ _ (tc_at _ _ _ j hj).2.2
  obtain ⟨v0, hv0⟩ : ∃ v0, w1.cell? ⟨w.heap.size, 0, none⟩ = some v0 := ⟨_, hcx 0 (by decide)⟩
  have hb1 : w.heap.size + 1 < w1.heap.size := by simpa using hl
  have hf1 : Free w1 (w.heap.size + 1) 0 12 := by have := hf; rwa [size_alloc] at this
  have HC := Lib.hid (And.intro hcx (And.intro hcy (And.intro hcz (And.intro hE (And.intro hb1 hf1)))))
  clear hcx hcy hcz hc0 hE hf hp hl hb1 hf1 hn0
  go_region_held3 (fun w' => w'.cell? ⟨w.heap.size, 0, none⟩ = some v0) (first | assumption | exact hv0) (first
    | (go_at_call 24; (with_reducible refine (Clone_any w.heap.size 0 32 _ (fun j => (bds 32 (x.val : Int)).reverse.getD j 0) w1.drew (by decide) (by decide) HC.out.1).mono ?_); rintro e w2 ⟨d1, k1, rfl, hg1, hl1, _, hc1, _, hE1⟩; have q1 := cell_ext' hE1 hv0; have H1 := Lib.hid (And.intro hE1 (And.intro hg1 (And.intro hl1 (held_of_cells (rev_len _) hc1)))); clear hg1 hl1 hc1 hE1)
    | (go_at_call 24; (with_reducible refine (Clone_any w.heap.size 32 32 _ (fun j => (bds 32 (y.val : Int)).reverse.getD j 0) w2 (by decide) (by decide) (fun j hj => cell_ext' H1.out.1 (HC.out.2.1 j hj))).mono ?_); rintro e w3 ⟨d2, k2, rfl, hg1, hl1, _, hc1, _, hE1⟩; have q2 := cell_ext' hE1 q1; have H2 := Lib.hid (And.intro hE1 (And.intro hg1 (And.intro hl1 (held_of_cells (rev_len _) hc1)))); clear hg1 hl1 hc1 hE1)
    | (go_at_call 24; (with_reducible refine (Clone_any w.heap.size 64 32 _ (fun j => (bds 32 (z.val : Int)).reverse.getD j 0) w3 (by decide) (by decide) (fun j hj => cell_ext' H2.out.1 (cell_ext' H1.out.1 (HC.out.2.2.1 j hj)))).mono ?_); rintro e w4 ⟨d3, k3, rfl, hg1, hl1, _, hc1, _, hE1⟩; have q3 := cell_ext' hE1 q2; have H3 := Lib.hid (And.intro hE1 (And.intro hg1 (And.intro hl1 (held_of_cells (rev_len _) hc1)))); clear hg1 hl1 hc1 hE1;
        have s1 := H1.out.1.below.size; have s2 := H2.out.1.below.size; have s3 := H3.out.1.below.size; have g1 := H1.out.2.1; have g2 := H2.out.2.1; have g3 := H3.out.2.1; have t1 := H1.out.2.2.1; have t2 := H2.out.2.2.1; have t3 := H3.out.2.2.1; have hb1 := HC.out.2.2.2.2.1; have s0 : w1.drew.heap.size = w1.heap.size := rfl;
        have HS := Lib.hid (And.intro (show w.heap.size + 1 < w4.heap.size by omega) (And.intro (show d1 < w4.heap.size by omega) (And.intro (show d2 < w4.heap.size by omega) (And.intro t3 (And.intro (show d1 ≠ w.heap.size + 1 by omega) (And.intro (show d2 ≠ w.heap.size + 1 by omega) (show d3 ≠ w.heap.size + 1 by omega)))))));
        have HF := Lib.hid (And.intro (H3.out.1.free (by omega) (H2.out.1.free (by omega) (H1.out.1.free (show w.heap.size + 1 < w1.drew.heap.size from hb1) (show Free w1.drew (w.heap.size + 1) 0 12 from HC.out.2.2.2.2.2)))) (And.intro (H3.out.1.held t2 H2.out.2.2.2) (H3.out.1.held (show d1 < w3.heap.size by omega) (H2.out.1.held t1 H1.out.2.2.2))));
        clear s0 s1 s2 s3 g1 g2 g3 t1 t2 t3 hb1)
    | (go_at_call 23; (with_reducible refine (SetProj_any (w.heap.size + 1) d1 d2 d3 k1 k2 k3 x y z w4 HS.out.1 HS.out.2.1 HS.out.2.2.1 HS.out.2.2.2.1 HS.out.2.2.2.2.1 HS.out.2.2.2.2.2.1 HS.out.2.2.2.2.2.2 HF.out.1 HF.out.2.2 HF.out.2.1 H3.out.2.2.2).mono ?_); rintro e w5 ⟨rfl, hT, hf5, hp5⟩; have q4 := (hT.away.cell (lt_of_cell q3) (by omega) 0).trans q3; have H5 := Lib.hid (And.intro hT (And.intro hf5 hp5)); clear hT hf5 hp5))
  go_wp2_with (first
      | (refine wp_grow (l := [_, _, _, _, _]) (by kernel_rfl) (by kernel_rfl) ?_; (try simp only [act_put_none]); (repeat (first | go_big_quiet_skip | (go_big_quiet_want; go_big_quiet_op; first | go_big_quiet_on))); refine wpQuiet_nil ?_; intro _ hw'; obtain ⟨g', hw''⟩ := hw'; subst hw''))
  have hE5 : Ext w w5 := Turned.ext_of_new (((((Ext.al w _).trans HC.out.2.2.2.1).trans (Ext.of_drew H1.out.1)).trans H2.out.1).trans H3.out.1) H5.out.1 (Nat.le_succ _)
  have hb5 : w.heap.size + 1 < w5.heap.size := H5.out.1.lt HS.out.1
  exact bodyPost_ret (v := .tuple #[.pointer (some ⟨w.heap.size + 1, 0, none⟩), .bool true]) (by simp [results, Try.results15, go_sem]) rfl ⟨_, rfl, Nat.le_succ _, (Ext.gr _ _).lt hb5, hE5.trans (Ext.gr _ _), (Ext.gr _ _).free hb5 H5.out.2.1, (Ext.gr _ _).pnt hb5 H5.out.2.2⟩
end Go.Proofs.Ytgdjmgcolipcnaa
