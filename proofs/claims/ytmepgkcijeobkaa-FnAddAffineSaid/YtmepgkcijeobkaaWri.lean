/-
  What is proved here: what the reference tells of a point.
  Conditions: those of each theorem.
-/
import Derived.Test.YtmepgkcijeobkaaProg
import Derived.Test.YtmepgkcijeobkaaSpecISpecJ
import Derived.Test.YtmepgkcijeobkaaBysCod
import Derived.Laws.AppendOwn
import Derived.WalkKit
import Derived.WalkSpells
import Derived.Outline
import Derived.Handy
import Derived.ProofKit
import Derived.Deep.QuietTactic
import Derived.BigQuiet
import Derived.Lib.Hide
import Derived.OpenShut
namespace Go.Proofs.Ytmepgkcijeobkaa
open Go Go.RowKit Ecp
set_option linter.unusedSimpArgs false
set_option linter.unusedVariables false

theorem Bytes_fp (x : Fp) (w : World) : Calls Try.prog 24 #[.agg (ec (x.val : Int))] w fun e w' => e = .returned (.agg (bc (x.val : Int))) ∧ Ext w w' := Bytes_row (x.val : Int) (by omega) (Int.lt_trans (fv_lt x) pI_lt) w
theorem pc_cell (f : Bool) (X Y : Int) (w : World) (t : TypeId) : (w.alloc (.cells (pc f X Y) t)).cell? ⟨w.heap.size, 0, none⟩ = some (.bool f) := by
  rw [cell_of_row _ _ _ _ _ _ (heap_at w (.cells (pc f X Y) t) _ rfl)]
  exact pc_0 f X Y
set_option maxHeartbeats 1000000 in
set_option maxRecDepth 100000 in
theorem Written_far (X Y : Int) (w : World) : Calls Try.prog 26 #[.agg (pc true X Y)] w fun e w' => ∃ g k, e = .returned (.slice (some ⟨g, 0, none⟩) 1 k) ∧ g < w'.heap.size ∧ Ext w w' ∧ Held .u8 w' g 0 [0] := by
  have q0 := pc_cell true X Y w 26
  go_enter Try.func26, Try.ntmps26
  go_wp2_with (fail)
  exact bodyPost_ret (v := .slice (some ⟨w.heap.size + 1, 0, none⟩) 1 1) (by simp [results, Try.results26, go_sem]) rfl ⟨_, _, rfl, by simp [size_alloc], (Ext.al _ _).trans (Ext.al _ _), held_one (heap_at _ _ _ (by simp [size_alloc]))⟩
theorem step_append_own {P : Program} {w : World} {ops : Array Oper} {o : Oper} {a : Act} {K : Act → World → Prop} {Q : Exit → Act → World → Prop} {E : Prop} (hgd : o.guard = none) (s x : Operand) (t : TypeId)
    (ho : o.op = .call { callee := .builtin .append, args := #[s, x], argTypes := #[t, t] })
    (base : Nat) (e : TypeId) (i : TypeInfo) (z : Value) (size bytes : Nat) (ht : P.underlying t = some (.slice e)) (hi : P.info? e = some i) (hz : i.zero = some z)
    (hsize : i.size = size) (hby : i.bytes = bytes) (hzs : z.cells.size = size) (hsz : 0 < size)
    (v : Value) (n : Nat) (xs : List Value) (hs : a.eval s = v) (hown : w.ownsRow base e size v n xs)
    (ad : Addr) (m c : Nat) (news : List Value) (hx : a.eval x = .slice (some ad) m c) (hl : news.length = m * size) (hnews : ∀ j u, news[j]? = some u → w.cell? (ad.add j) = some u) (h1 : ∀ u ∈ news, u.oneCell' = true)
    (h63 : n + m ≤ maxLen) (hbytes : (n + m) * bytes ≤ 140737488355328) (hbase : base ≤ w.heap.size)
    (h : ∀ v' w', w'.ownsRow base e size v' (n + m) (xs ++ news) → w.grownBy w' v.ownBlock → (v' = .slice none 0 0 ↔ v = .slice none 0 0 ∧ m = 0) → K (a.put o.dst v') w') : if Region.wanted o (yielded ops a.tmps) = true then Oper.wp P o a w K Q else E := by
  have hw : Region.wanted o (yielded ops a.tmps) = true := by simp [Region.wanted, hgd]
  rw [if_pos hw]
  exact wp_append_own w s x t ho base e i z size bytes ht hi hz hsize hby hzs hsz v n xs hs hown ad m c news hx hl hnews h1 h63 hbytes hbase h
theorem held_news {w : World} {b o : Nat} {l : List Int} (h : Held .u8 w b o l) : ∀ j u, (l.map (Value.int .u8))[j]? = some u → w.cell? ((⟨b, o, none⟩ : Addr).add j) = some u := fun j u hj => by
  rw [List.getElem?_map] at hj
  obtain ⟨x, hx1, rfl⟩ := Option.map_eq_some_iff.1 hj
  rw [add_ptr]
  exact h j x hx1
theorem one_news (l : List Int) : ∀ u ∈ l.map (Value.int .u8), u.oneCell' = true := fun u hu => by
  obtain ⟨x, _, rfl⟩ := List.mem_map.1 hu
  rfl
theorem own_held {w : World} {base n : Nat} {t : TypeId} {v : Value} {l : List Int} (h : w.ownsRow base t 1 v n (l.map (Value.int .u8))) (hl : l.length = n) (hn : 0 < n) : ∃ g k, v = .slice (some ⟨g, 0, none⟩) n k ∧ base ≤ g ∧ g < w.heap.size ∧ Held .u8 w g 0 l := by
  obtain ⟨hlen, h0 | ⟨g, cap, cur, rfl, hbg, hh, hcap, _, hsz, htk⟩⟩ := h
  · omega
  · refine ⟨g, cap, rfl, hbg, ?_, ?_⟩
    · rcases Nat.lt_or_ge g w.heap.size with h | h
      · exact h
      · rw [Array.getElem?_eq_none h] at hh; cases hh
    · intro j x hj
      have hjn : j < n := by rw [← hl]; exact (List.getElem?_eq_some_iff.1 hj).1
      unfold World.cell?
      rw [hh]
      have h1 : cur.toList[j]? = some (Value.int .u8 x) := by
        have h2 : (cur.toList.take (n * 1))[j]? = some (Value.int .u8 x) := by
          rw [htk, List.getElem?_map, hj]; rfl
        rw [List.getElem?_take] at h2
        split at h2
        · exact h2
        · cases h2
      simpa using h1
theorem own_one (w : World) (v : Int) : (w.alloc (.cells #[.int .u8 v] 5)).ownsRow w.heap.size 5 1 (.slice (some ⟨w.heap.size, 0, none⟩) 1 1) 1 [.int .u8 v] :=
  ⟨rfl, .inr ⟨w.heap.size, 1, _, rfl, Nat.le_refl _, heap_at w _ _ rfl, Nat.le_refl _, by decide, rfl, rfl⟩⟩
theorem bel_one {W w' : World} {ob : Obj} (hg : (W.drew.alloc ob).grownBy w' (Value.ownBlock (.slice (some ⟨W.heap.size, 0, none⟩) 1 1))) : Below W.heap.size W.drew w' :=
  ((Below.refl W.heap.size W.drew).alloc (Nat.le_refl _) _).grown hg (by rw [size_alloc]; exact Nat.le_succ _) (by intro k hk; simp [Value.ownBlock] at hk; omega)
set_option maxHeartbeats 1000000 in
set_option maxRecDepth 100000 in
theorem Written_aff (x y : Fp) (w : World) : Calls Try.prog 26 #[.agg (pc false (x.val : Int) (y.val : Int))] w fun e w' => ∃ g k, e = .returned (.slice (some ⟨g, 0, none⟩) 65 k) ∧ g < w'.heap.size ∧ Ext w w' ∧ Held .u8 w' g 0 ([4] ++ Bx x ++ Bx y) := by
  have q0 := pc_cell false (x.val : Int) (y.val : Int) w 26
  obtain ⟨i0, hi, hz0, hz1, hz2⟩ := info_parts info_u8
  go_enter Try.func26, Try.ntmps26
  go_wp2
  (refine wp_make_tail (l := [_, _, _, _, _, _, _, _, _, _]) 8 6 (.cells #[.int .u8 0, .int .u8 0, .int .u8 0, .int .u8 0, .int .u8 0, .int .u8 0, .int .u8 0, .int .u8 0, .int .u8 0, .int .u8 0, .int .u8 0, .int .u8 0, .int .u8 0, .int .u8 0, .int .u8 0, .int .u8 0, .int .u8 0, .int .u8 0, .int .u8 0, .int .u8 0, .int .u8 0, .int .u8 0, .int .u8 0, .int .u8 0, .int .u8 0, .int .u8 0, .int .u8 0, .int .u8 0, .int .u8 0, .int .u8 0, .int .u8 0, .int .u8 0] 31) (by kernel_rfl) (by kernel_rfl) ?_; simp only [List.take_succ_cons, List.take_zero, List.drop_succ_cons, List.drop_zero]; (try simp only [act_put_none]); (apply wpX_step _ (Ext.refl _) rfl rfl rfl (by simp); (· intro u9 hu9 K9 hK9; (go_big_quiet_op; exact hK9))); (apply wpX_step _ (Ext.refl _) rfl rfl rfl (by simp); (· intro u9 hu9 K9 hK9; ((refine quiet_load_part 24 _ rfl _ _ rfl _ _ _ (by rintro _ ⟨g9, rfl⟩; refine ext_row (hu9.trans ⟨g9, rfl⟩) ?_; (with_reducible (simp only [hsA, setRow_heap]; rfl))) _ (by with_reducible exact pc_x _ _ _) _ Try.underlying24 rfl (inE _) ?_; go_simp; exact hK9)))); (apply wpX_step _ (Ext.refl _) rfl rfl rfl (by simp); (· intro u9 hu9 K9 hK9; (go_big_quiet_op; apply Exists.intro; refine ⟨fun _ => ?_, ?_⟩; (· ((go_at_call 24; with_reducible exact calls_grow (Bytes_fp _ _)))); exact hK9))); (apply wpX_step _ (Ext.refl _) rfl rfl rfl (by simp); (· intro u9 hu9 K9 hK9; (go_big_quiet_op; exact hK9))); (apply wpX_step _ (Ext.refl _) rfl rfl rfl (by simp); (· intro u9 hu9 K9 hK9; ((refine quiet_load_part 24 _ rfl _ _ rfl _ _ _ (by rintro _ ⟨g9, rfl⟩; refine ext_row (hu9.trans ⟨g9, rfl⟩) ?_; (with_reducible (simp only [hsA, setRow_heap]; rfl))) _ (by with_reducible exact pc_y _ _ _) _ Try.underlying24 rfl (inE _) ?_; go_simp; exact hK9)))); (apply wpX_step _ (Ext.refl _) rfl rfl rfl (by simp); (· intro u9 hu9 K9 hK9; (go_big_quiet_op; apply Exists.intro; refine ⟨fun _ => ?_, ?_⟩; (· ((go_at_call 24; with_reducible exact calls_grow (Bytes_fp _ _)))); exact hK9))); refine wpX_make rfl rfl (fun w => by simp [execOp, go_sem]) ?_; intro b6; (try simp only [ptrV]); go_simp; refine wpX_make rfl rfl (fun w => by simp [execOp, go_sem]) ?_; intro b7; (try simp only [ptrV]); go_simp; refine wpX_nil ?_; intro w5 hE5 hth hne; have hx6 := hth 6 (by decide) (by decide); have hb6 : w5.heap[b6]? = some (.cells #[.int .u8 0, .int .u8 0, .int .u8 0, .int .u8 0, .int .u8 0, .int .u8 0, .int .u8 0, .int .u8 0, .int .u8 0, .int .u8 0, .int .u8 0, .int .u8 0, .int .u8 0, .int .u8 0, .int .u8 0, .int .u8 0, .int .u8 0, .int .u8 0, .int .u8 0, .int .u8 0, .int .u8 0, .int .u8 0, .int .u8 0, .int .u8 0, .int .u8 0, .int .u8 0, .int .u8 0, .int .u8 0, .int .u8 0, .int .u8 0, .int .u8 0, .int .u8 0] 31) := hx6.1; have hg6 : _ ≤ b6 := hx6.2; clear hx6; have hx7 := hth 7 (by decide) (by decide); have hb7 : w5.heap[b7]? = some (.cells #[.int .u8 0, .int .u8 0, .int .u8 0, .int .u8 0, .int .u8 0, .int .u8 0, .int .u8 0, .int .u8 0, .int .u8 0, .int .u8 0, .int .u8 0, .int .u8 0, .int .u8 0, .int .u8 0, .int .u8 0, .int .u8 0, .int .u8 0, .int .u8 0, .int .u8 0, .int .u8 0, .int .u8 0, .int .u8 0, .int .u8 0, .int .u8 0, .int .u8 0, .int .u8 0, .int .u8 0, .int .u8 0, .int .u8 0, .int .u8 0, .int .u8 0, .int .u8 0] 31) := hx7.1; have hg7 : _ ≤ b7 := hx7.2; clear hx7; have n1 : b6 ≠ b7 := hne 6 7 (by decide) (by decide) (by decide) (by decide) (by decide); have g6 : w.heap.size + 1 ≤ b6 := (by simpa using hg6); have g7 : w.heap.size + 1 ≤ b7 := (by simpa using hg7); have hq1 := fun c => (setRow_other w5 b6 b7 c (Ne.symm n1)).trans hb7; have hq2 := fun c d => (setRow_other (w5.setRow b6 c) b7 b6 d n1).trans (setRow_heap w5 b6 _ c _ _ hb6); have hq3 := fun c d => setRow_heap (w5.setRow b6 c) b7 _ d _ _ (hq1 c); have hE6 := fun c d => Ext.setRow (Ext.setRow ((Ext.al w _).trans hE5) (show w.heap.size ≤ b6 by omega) c) (show w.heap.size ≤ b7 by omega) d; clear hg6 hg7 hth hne hE5)
  go_wp2_with ((refine wpList_store_rowW rfl 31 _ _ rfl _ _ rfl rfl _ _ (by (with_reducible first | assumption | exact hq1 ..)) (inB _) (by simp only [ec_size, bc_size, pc_size, tc_size, ec_size, bc_size, pc_size, tc_size]; try rfl) (bc_one _) ?_; (try simp only [nmA])))
  have e1 := held_bc (hq2 (bc (x.val : Int)) (bc (y.val : Int)))
  have e2 := held_bc (hq3 (bc (x.val : Int)) (bc (y.val : Int)))
  have e3 := hE6 (bc (x.val : Int)) (bc (y.val : Int))
  have l6 : b6 < ((w5.setRow b6 (bc (x.val : Int))).setRow b7 (bc (y.val : Int))).heap.size := by
    rcases Nat.lt_or_ge b6 ((w5.setRow b6 (bc (x.val : Int))).setRow b7 (bc (y.val : Int))).heap.size with h | h
    · exact h
    · have := hq2 (bc (x.val : Int)) (bc (y.val : Int)); rw [Array.getElem?_eq_none h] at this; cases this
  have l7 : b7 < ((w5.setRow b6 (bc (x.val : Int))).setRow b7 (bc (y.val : Int))).heap.size := by
    rcases Nat.lt_or_ge b7 ((w5.setRow b6 (bc (x.val : Int))).setRow b7 (bc (y.val : Int))).heap.size with h | h
    · exact h
    · have := hq3 (bc (x.val : Int)) (bc (y.val : Int)); rw [Array.getElem?_eq_none h] at this; cases this
  generalize (w5.setRow b6 (bc (x.val : Int))).setRow b7 (bc (y.val : Int)) = W at e1 e2 e3 l6 l7 ⊢
  have H := Lib.hid (And.intro e3 (And.intro l6 (And.intro l7 (And.intro (show Held .u8 W b6 0 (Bx x) from e1) (show Held .u8 W b7 0 (Bx y) from e2)))))
  clear e1 e2 e3 l6 l7 hq1 hq2 hq3 hE6 hb6 hb7 g6 g7 n1 q0
  go_region_held3 (fun w' => True) (trivial) (first | ((refine step_append_own rfl _ _ 22 rfl W.heap.size 5 i0 (.int .u8 0) 1 1 Try.underlying22 hi hz0 hz1 hz2 rfl (by decide) (.slice (some ⟨W.heap.size, 0, none⟩) 1 1) 1 [.int .u8 4] rfl (own_one W.drew 4) ⟨b6, 0, none⟩ 32 32 ((Bx x).map (Value.int .u8)) rfl (by simp [Bx_len]) (held_news (Held.alloc (show Held .u8 W.drew b6 0 (Bx x) from H.out.2.2.2.1) H.out.2.1 _)) (one_news _) (by unfold maxLen; omega) (by decide) (by show W.heap.size ≤ (W.alloc _).heap.size; rw [size_alloc]; exact Nat.le_succ _) ?_); intro v1 w6 hown hgrow hnil; have hbel : Below W.heap.size W.drew w6 := bel_one hgrow; have H6 := Lib.hid (And.intro hown hbel); clear hown hgrow hnil hbel) | ((refine step_append_own rfl _ _ 22 rfl W.heap.size 5 i0 (.int .u8 0) 1 1 Try.underlying22 hi hz0 hz1 hz2 rfl (by decide) v1 33 ([.int .u8 4] ++ (Bx x).map (Value.int .u8)) rfl H6.out.1 ⟨b7, 0, none⟩ 32 32 ((Bx y).map (Value.int .u8)) rfl (by simp [Bx_len]) (held_news ((Ext.of_below (w := W.drew) H6.out.2).held H.out.2.2.1 (show Held .u8 W.drew b7 0 (Bx y) from H.out.2.2.2.2))) (one_news _) (by unfold maxLen; omega) (by decide) H6.out.2.size ?_); intro v2 w7 hown hgrow hnil; have hbel : Below W.heap.size W.drew w7 := H6.out.2.grown hgrow H6.out.2.size (fun k hk => (H6.out.1.lt k hk).1); have H7 := Lib.hid (And.intro hown hbel); clear hown hgrow hnil hbel))
  all_goals
    go_wp2
    obtain ⟨g, k, rfl, h1, h2, h3⟩ := own_held (l := [4] ++ Bx x ++ Bx y) (n := 65) (by simpa [List.map_append] using H7.out.1) (by simp [Bx_len]) (by decide)
    exact bodyPost_ret (v := .slice (some ⟨g, 0, none⟩) 65 k) (by simp [results, Try.results26, go_sem]) rfl ⟨g, k, rfl, h2, H.out.1.trans (Ext.of_drew (Ext.of_below (w := W.drew) H7.out.2)), h3⟩
theorem Written_any (p : Pt) (w : World) : Calls Try.prog 26 #[.agg (pv p)] w fun e w' => ∃ g k, e = .returned (.slice (some ⟨g, 0, none⟩) (wrL p).length k) ∧ g < w'.heap.size ∧ Ext w w' ∧ Held .u8 w' g 0 (wrL p) := by
  cases p with
  | far => exact Written_far _ _ w
  | aff x y => rw [wrL_len]; exact Written_aff x y w
theorem Bx_bd (x : Fp) : ∀ v ∈ Bx x, 0 ≤ v ∧ v < 256 := fun v hv => bds_bd 32 (x.val : Int) v (List.mem_reverse.mp hv)
theorem wrL_bd (p : Pt) : ∀ v ∈ wrL p, 0 ≤ v ∧ v < 256 := by
  cases p with
  | far => intro v hv; simp [wrL] at hv; omega
  | aff x y =>
    intro v hv
    simp only [wrL, List.mem_append, List.mem_singleton] at hv
    rcases hv with (rfl | h) | h
    · omega
    · exact Bx_bd x v h
    · exact Bx_bd y v h
end Go.Proofs.Ytmepgkcijeobkaa
