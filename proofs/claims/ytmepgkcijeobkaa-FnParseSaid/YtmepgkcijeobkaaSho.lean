/-
  What is proved here: what the reference tells of a point, the shorter form.
  Conditions: those of each theorem.
-/
import Derived.Test.YtmepgkcijeobkaaProg
import Derived.Test.YtmepgkcijeobkaaWri
import Derived.Test.YtmepgkcijeobkaaRdRe
import Derived.WalkKit
import Derived.WalkSpells
import Derived.Outline
import Derived.Handy
import Derived.ProofKit
import Derived.Deep.QuietTactic
import Derived.BigQuiet
import Derived.Lib.Hide
import Derived.OpenShut
namespace Go.Proofs.Ytmepgkcijeobkaa
open Go Go.RowKit Ecp
set_option linter.unusedSimpArgs false
set_option linter.unusedVariables false

set_option maxHeartbeats 1000000 in
set_option maxRecDepth 100000 in
theorem Short_far (X Y : Int) (w : World) : Calls Try.prog 37 #[.agg (pc true X Y)] w fun e w' => ∃ g k, e = .returned (.slice (some ⟨g, 0, none⟩) 1 k) ∧ g < w'.heap.size ∧ Ext w w' ∧ Held .u8 w' g 0 [0] := by
  have q0 := pc_cell true X Y w 26
  go_enter Try.func37, Try.ntmps37
  go_wp2_with (fail)
  exact bodyPost_ret (v := .slice (some ⟨w.heap.size + 1, 0, none⟩) 1 1) (by simp [results, Try.results37, go_sem]) rfl ⟨_, _, rfl, by simp [size_alloc], (Ext.al _ _).trans (Ext.al _ _), held_one (heap_at _ _ _ (by simp [size_alloc]))⟩
theorem pc_cell9 (f : Bool) (X Y : Int) (w : World) (t : TypeId) : (w.alloc (.cells (pc f X Y) t)).cell? ⟨w.heap.size, 9, none⟩ = some (.int .i64 (Y % 4294967296)) := by
  rw [cell_of_row _ _ _ _ _ _ (heap_at w (.cells (pc f X Y) t) _ rfl), pc, Array.getElem?_append_right (by simp [ec_size])]
  have e : 9 - (#[Value.bool f] ++ ec X).size = 0 := by simp [ec_size]
  rw [e]; exact ec_0 Y
set_option maxHeartbeats 1000000 in
set_option maxRecDepth 100000 in
theorem Short_aff0 (x y : Fp) (hr : (y.val : Int) % 2 = 0) (w : World) : Calls Try.prog 37 #[.agg (pc false (x.val : Int) (y.val : Int))] w fun e w' => ∃ g k, e = .returned (.slice (some ⟨g, 0, none⟩) 33 k) ∧ g < w'.heap.size ∧ Ext w w' ∧ Held .u8 w' g 0 ([2] ++ Bx x) := by
  have q0 := pc_cell false (x.val : Int) (y.val : Int) w 26
  have q9 := pc_cell9 false (x.val : Int) (y.val : Int) w 26
  have qb := parity64 ((y.val : Int) % 4294967296) (by omega) (by omega)
  rw [show (y.val : Int) % 4294967296 % 2 = 0 by omega] at qb
  generalize (y.val : Int) % 4294967296 = d at q9 qb
  obtain ⟨i0, hi, hz0, hz1, hz2⟩ := info_parts info_u8
  go_enter Try.func37, Try.ntmps37
  go_wp2_with (first | (refine wpList_store_rowW rfl 31 _ _ rfl _ _ rfl rfl _ _ (by (with_reducible first | (simp only [hsA, setRow_heap]; rfl) | (repeat (fail)))) (inB _) (by simp only [ec_size, bc_size, pc_size, tc_size, ec_size, bc_size, pc_size, tc_size]; try rfl) (bc_one _) ?_; (try simp only [nmA])) | (refine wpList_load_partW rfl 24 _ rfl _ _ rfl _ _ _ (by (with_reducible first | (simp only [hsA, setRow_heap]; rfl) | (repeat (fail)))) _ (by with_reducible exact pc_x _ _ _) _ Try.underlying24 rfl (inE _) ?_) | (go_at_call 24; go_must (with_reducible refine (Bytes_fp _ _).mono ?_); rintro e w' ⟨rfl, g1, rfl⟩))
  have e3 : Ext w ((ext (w.alloc (.cells (pc false (x.val : Int) (y.val : Int)) 26)) g1).alloc (.cells (bc (x.val : Int)) 31)) := ((Ext.al w _).trans (Ext.gr _ _)).trans (Ext.al _ _)
  have e9 := cell_ext' ((Ext.gr (w.alloc (.cells (pc false (x.val : Int) (y.val : Int)) 26)) g1).trans (Ext.al _ (.cells (bc (x.val : Int)) 31))) q9
  have lb : (ext (w.alloc (.cells (pc false (x.val : Int) (y.val : Int)) 26)) g1).heap.size = w.heap.size + 1 + g1.os.length := by simp [size_ext, size_alloc]
  have e1 := held_bc (heap_at (ext (w.alloc (.cells (pc false (x.val : Int) (y.val : Int)) 26)) g1) (.cells (bc (x.val : Int)) 31) _ rfl)
  have l6 : (ext (w.alloc (.cells (pc false (x.val : Int) (y.val : Int)) 26)) g1).heap.size < ((ext (w.alloc (.cells (pc false (x.val : Int) (y.val : Int)) 26)) g1).alloc (.cells (bc (x.val : Int)) 31)).heap.size := by rw [size_alloc]; exact Nat.lt_succ_self _
  rw [lb] at e1 l6
  clear lb q0 q9
  generalize (ext (w.alloc (.cells (pc false (x.val : Int) (y.val : Int)) 26)) g1).alloc (.cells (bc (x.val : Int)) 31) = W at e1 e3 e9 l6 ⊢
  generalize w.heap.size + 1 + g1.os.length = b6 at e1 l6 ⊢
  have H := Lib.hid (And.intro e3 (And.intro l6 (show Held .u8 W b6 0 (Bx x) from e1)))
  clear e1 e3 l6
  go_region_held3 (fun w' => w'.cell? ⟨w.heap.size, 9, none⟩ = some (.int .i64 d)) (first | assumption | exact cell_ext' (Ext.al W _) e9) (((refine step_append_own rfl _ _ 22 rfl W.heap.size 5 i0 (.int .u8 0) 1 1 Try.underlying22 hi hz0 hz1 hz2 rfl (by decide) (.slice (some ⟨W.heap.size, 0, none⟩) 1 1) 1 [.int .u8 2] rfl (own_one W.drew 2) ⟨b6, 0, none⟩ 32 32 ((Bx x).map (Value.int .u8)) rfl (by simp [Bx_len]) (held_news (Held.alloc (show Held .u8 W.drew b6 0 (Bx x) from H.out.2.2) H.out.2.1 _)) (one_news _) (by unfold maxLen; omega) (by decide) (by show W.heap.size ≤ (W.alloc _).heap.size; rw [size_alloc]; exact Nat.le_succ _) ?_); intro v1 w6 hown hgrow hnil; have hbel : Below W.heap.size W.drew w6 := bel_one hgrow; have q6 := cell_ext' (Ext.of_below (w := W.drew) hbel) e9; have H6 := Lib.hid (And.intro hown hbel); clear hown hgrow hnil hbel))
  all_goals
    go_wp2
    obtain ⟨g, k, rfl, h1, h2, h3⟩ := own_held (l := [2] ++ Bx x) (n := 33) (by simpa [List.map_append] using H6.out.1) (by simp [Bx_len]) (by decide)
    exact bodyPost_ret (v := .slice (some ⟨g, 0, none⟩) 33 k) (by simp [results, Try.results37, go_sem]) rfl ⟨g, k, rfl, h2, H.out.1.trans (Ext.of_drew (Ext.of_below (w := W.drew) H6.out.2)), h3⟩
set_option maxHeartbeats 1000000 in
set_option maxRecDepth 100000 in
theorem Short_aff1 (x y : Fp) (hr : (y.val : Int) % 2 = 1) (w : World) : Calls Try.prog 37 #[.agg (pc false (x.val : Int) (y.val : Int))] w fun e w' => ∃ g k, e = .returned (.slice (some ⟨g, 0, none⟩) 33 k) ∧ g < w'.heap.size ∧ Ext w w' ∧ Held .u8 w' g 0 ([3] ++ Bx x) := by
  have q0 := pc_cell false (x.val : Int) (y.val : Int) w 26
  have q9 := pc_cell9 false (x.val : Int) (y.val : Int) w 26
  have qb := parity64 ((y.val : Int) % 4294967296) (by omega) (by omega)
  rw [show (y.val : Int) % 4294967296 % 2 = 1 by omega] at qb
  generalize (y.val : Int) % 4294967296 = d at q9 qb
  obtain ⟨i0, hi, hz0, hz1, hz2⟩ := info_parts info_u8
  go_enter Try.func37, Try.ntmps37
  go_wp2_with (first | (refine wpList_store_rowW rfl 31 _ _ rfl _ _ rfl rfl _ _ (by (with_reducible first | (simp only [hsA, setRow_heap]; rfl) | (repeat (fail)))) (inB _) (by simp only [ec_size, bc_size, pc_size, tc_size, ec_size, bc_size, pc_size, tc_size]; try rfl) (bc_one _) ?_; (try simp only [nmA])) | (refine wpList_load_partW rfl 24 _ rfl _ _ rfl _ _ _ (by (with_reducible first | (simp only [hsA, setRow_heap]; rfl) | (repeat (fail)))) _ (by with_reducible exact pc_x _ _ _) _ Try.underlying24 rfl (inE _) ?_) | (go_at_call 24; go_must (with_reducible refine (Bytes_fp _ _).mono ?_); rintro e w' ⟨rfl, g1, rfl⟩))
  have e3 : Ext w ((ext (w.alloc (.cells (pc false (x.val : Int) (y.val : Int)) 26)) g1).alloc (.cells (bc (x.val : Int)) 31)) := ((Ext.al w _).trans (Ext.gr _ _)).trans (Ext.al _ _)
  have e9 := cell_ext' ((Ext.gr (w.alloc (.cells (pc false (x.val : Int) (y.val : Int)) 26)) g1).trans (Ext.al _ (.cells (bc (x.val : Int)) 31))) q9
  have lb : (ext (w.alloc (.cells (pc false (x.val : Int) (y.val : Int)) 26)) g1).heap.size = w.heap.size + 1 + g1.os.length := by simp [size_ext, size_alloc]
  have e1 := held_bc (heap_at (ext (w.alloc (.cells (pc false (x.val : Int) (y.val : Int)) 26)) g1) (.cells (bc (x.val : Int)) 31) _ rfl)
  have l6 : (ext (w.alloc (.cells (pc false (x.val : Int) (y.val : Int)) 26)) g1).heap.size < ((ext (w.alloc (.cells (pc false (x.val : Int) (y.val : Int)) 26)) g1).alloc (.cells (bc (x.val : Int)) 31)).heap.size := by rw [size_alloc]; exact Nat.lt_succ_self _
  rw [lb] at e1 l6
  clear lb q0 q9
  generalize (ext (w.alloc (.cells (pc false (x.val : Int) (y.val : Int)) 26)) g1).alloc (.cells (bc (x.val : Int)) 31) = W at e1 e3 e9 l6 ⊢
  generalize w.heap.size + 1 + g1.os.length = b6 at e1 l6 ⊢
  have H := Lib.hid (And.intro e3 (And.intro l6 (show Held .u8 W b6 0 (Bx x) from e1)))
  clear e1 e3 l6
  go_region_held3 (fun w' => w'.cell? ⟨w.heap.size, 9, none⟩ = some (.int .i64 d)) (first | assumption | exact cell_ext' (Ext.al W _) e9) (((refine step_append_own rfl _ _ 22 rfl W.heap.size 5 i0 (.int .u8 0) 1 1 Try.underlying22 hi hz0 hz1 hz2 rfl (by decide) (.slice (some ⟨W.heap.size, 0, none⟩) 1 1) 1 [.int .u8 3] rfl (own_one W.drew 3) ⟨b6, 0, none⟩ 32 32 ((Bx x).map (Value.int .u8)) rfl (by simp [Bx_len]) (held_news (Held.alloc (show Held .u8 W.drew b6 0 (Bx x) from H.out.2.2) H.out.2.1 _)) (one_news _) (by unfold maxLen; omega) (by decide) (by show W.heap.size ≤ (W.alloc _).heap.size; rw [size_alloc]; exact Nat.le_succ _) ?_); intro v1 w6 hown hgrow hnil; have hbel : Below W.heap.size W.drew w6 := bel_one hgrow; have q6 := cell_ext' (Ext.of_below (w := W.drew) hbel) e9; have H6 := Lib.hid (And.intro hown hbel); clear hown hgrow hnil hbel))
  all_goals
    go_wp2
    obtain ⟨g, k, rfl, h1, h2, h3⟩ := own_held (l := [3] ++ Bx x) (n := 33) (by simpa [List.map_append] using H6.out.1) (by simp [Bx_len]) (by decide)
    exact bodyPost_ret (v := .slice (some ⟨g, 0, none⟩) 33 k) (by simp [results, Try.results37, go_sem]) rfl ⟨g, k, rfl, h2, H.out.1.trans (Ext.of_drew (Ext.of_below (w := W.drew) H6.out.2)), h3⟩
theorem Short_any (p : Pt) (w : World) : Calls Try.prog 37 #[.agg (pv p)] w fun e w' => ∃ g k, e = .returned (.slice (some ⟨g, 0, none⟩) (shL p).length k) ∧ g < w'.heap.size ∧ Ext w w' ∧ Held .u8 w' g 0 (shL p) := by
  cases p with
  | far => exact Short_far _ _ w
  | aff x y =>
    rw [shL_len]
    show Calls _ _ #[.agg (pc false (x.val : Int) (y.val : Int))] w fun e w' => ∃ g k, e = .returned (.slice (some ⟨g, 0, none⟩) 33 k) ∧ g < w'.heap.size ∧ Ext w w' ∧ Held .u8 w' g 0 ([2 + (y.val : Int) % 2] ++ Bx x)
    rcases Int.emod_two_eq (y.val : Int) with h | h
    · rw [h]; exact Short_aff0 x y h w
    · rw [h]; exact Short_aff1 x y h w
end Go.Proofs.Ytmepgkcijeobkaa
