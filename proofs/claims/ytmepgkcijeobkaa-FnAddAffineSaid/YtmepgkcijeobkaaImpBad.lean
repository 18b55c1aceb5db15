/-
  What is proved here: a point that is set to bytes that tell it; the point of bytes.
  Conditions: those of each theorem.
-/
import Derived.Test.YtmepgkcijeobkaaProg
import Derived.Test.YtmepgkcijeobkaaSpt
import Derived.Test.YtmepgkcijeobkaaBysCod
import Derived.Test.YtmepgkcijeobkaaClonePrjA
import Derived.WalkKit
import Derived.WalkSpells
import Derived.Outline
import Derived.Handy
import Derived.ProofKit
import Derived.Deep.QuietTactic
import Derived.BigQuiet
import Derived.Lib.Hide
import Derived.OpenShut
import Derived.Test.YtmepgkcijeobkaaByuSet
namespace Go.Proofs.Ytmepgkcijeobkaa
open Go Go.RowKit Ecp
set_option linter.unusedSimpArgs false
set_option linter.unusedVariables false

theorem SBG_any (q c k : Nat) (l : List Int) (P : Pt) (w : World) (hq : q < w.heap.size) (hc : c < w.heap.size) (hf : Free w q 0 12) (hl : Held .u8 w c 0 l) (hP : Cod l P) (hk : l.length ≤ k) :
    Calls Try.prog 58 #[.pointer (some ⟨q, 0, none⟩), .slice (some ⟨c, 0, none⟩) l.length k] w fun e w' => e = .returned (.tuple #[.pointer (some ⟨q, 0, none⟩), .nilIface]) ∧ Turned q 0 12 w w' ∧ Hp w' q 0 P := by
  rcases hP with ⟨rfl, rfl⟩ | ⟨x, y, ho, rfl, rfl | rfl⟩
  · exact SB_far q c k w hq hc hf (hl 0 0 rfl)
  · have e : ([(4 : Int)] ++ Bx x ++ Bx y).length = 65 := by simp [Bx_len]
    have hy := Held.tail hl
    rw [show 0 + ([(4 : Int)] ++ Bx x).length = 33 from by simp [Bx_len]] at hy
    have hx : Held .u8 w c 1 (Bx x) := Held.part (xs := [4]) hl
    rw [e] at hk ⊢
    exact SB_aff q c k w hq hc hf x y (hl 0 4 rfl) hx hy ho hk
  · have e : ([2 + (y.val : Int) % 2] ++ Bx x).length = 33 := by simp [Bx_len]
    have hx : Held .u8 w c 1 (Bx x) := Held.tail (xs := [2 + (y.val : Int) % 2]) hl
    have h0 : w.cell? ⟨c, 0, none⟩ = some (.int .u8 (2 + (y.val : Int) % 2)) := hl 0 _ rfl
    rw [e] at hk ⊢
    have hs := root_sq (onc_root ho)
    have ho' := root_or (onc_root ho)
    have hpar := fun v (h0 : (0 : Int) ≤ v) (h1 : v < 256) => parity v h0 h1
    generalize hre : fpow (x * x * x - (x + x + x) + cB) ((pN + 1) / 4) = r at ho'
    have hlow := low_byte r
    have ha := parity ((r.val : Int) % 256) (by omega) (by omega)
    have hm : (r.val : Int) % 256 % 2 = (r.val : Int) % 2 := by omega
    rw [hm] at ha
    rcases ho' with rfl | e'
    · rcases Int.emod_two_eq (r.val : Int) with h2 | h2
      · rw [h2] at ha h0
        exact SB_comp02 q c k w hq hc hf x r _ hlow ha h0 hx hs hre ho hk
      · rw [h2] at ha h0
        exact SB_comp13 q c k w hq hc hf x r _ hlow ha h0 hx hs hre ho hk
    · have hy : 0 - r = y := by rw [e']; exact g_neg_neg y
      have hn : (r.val : Int) % 2 = 1 - (y.val : Int) % 2 := by rw [e']; exact neg_par ho.y_ne
      rcases Int.emod_two_eq (y.val : Int) with h2 | h2
      · rw [hn, h2] at ha; rw [h2] at h0
        have := SB_comp12 q c k w hq hc hf x r _ hlow ha h0 hx hs hre (by rw [hy]; exact ho) hk
        rw [hy] at this; exact this
      · rw [hn, h2] at ha; rw [h2] at h0
        have := SB_comp03 q c k w hq hc hf x r _ hlow ha h0 hx hs hre (by rw [hy]; exact ho) hk
        rw [hy] at this; exact this
theorem held_cells {w : World} {g : Nat} {l : List Int} (h : ∀ j, j < l.length → w.cell? ⟨g, j, none⟩ = some (.int .u8 (l.getD j 0))) : Held .u8 w g 0 l := fun i x hi => by
  obtain ⟨hl, e⟩ := List.getElem?_eq_some_iff.mp hi
  rw [Nat.zero_add, h i hl]
  simp [List.getD, hi]
theorem cells_held {w : World} {b o : Nat} {l : List Int} (h : Held .u8 w b o l) : ∀ j, j < l.length → w.cell? ⟨b, o + j, none⟩ = some (.int .u8 (l.getD j 0)) := fun j hj => by
  have e : l[j]? = some (l.getD j 0) := by simp [List.getD, hj]
  exact h j _ e
theorem Free.hp {w w' : World} {b o len b' o' : Nat} {P : Pt} (h : Free w b o len) (hT : Turned b' o' 12 w w') (hE : Hp w' b' o' P) (hb : b < w.heap.size) : Free w' b o len := by
  obtain ⟨X, Y, Z, hp, _⟩ := hE
  exact h.pnt hT hp hb

set_option maxHeartbeats 1000000 in
set_option maxRecDepth 100000 in
theorem point_any (c o k : Nat) (l : List Int) (P : Pt) (w : World) (hc : c < w.heap.size) (hl : Held .u8 w c o l) (hP : Cod l P) :
    Calls Try.prog 56 #[.slice (some ⟨c, o, none⟩) l.length k] w fun e w' => ∃ q, e = .returned (.tuple #[.pointer (some ⟨q, 0, none⟩), .bool true]) ∧ w.heap.size ≤ q ∧ q < w'.heap.size ∧ Ext w w' ∧ Free w' q 0 12 ∧ Hp w' q 0 P := by
  have H := Lib.hid (And.intro hc (And.intro hl (And.intro hP (And.intro hP.pos hP.most))))
  clear hc hl hP
  go_enter Try.func56, Try.ntmps56
  go_wp2_with (first
    | (go_at_call 66; go_must (refine (NewHp w).mono ?_); rintro e w1 ⟨rfl, hn, hE, hf, hz⟩; have H1 := Lib.hid (And.intro hn (And.intro hE hf)); clear hn hE hf hz)
    | (go_at_call 59; (with_reducible refine (Clone_any c o l.length k (fun j => l.getD j 0) w1 H.out.2.2.2.1 (Nat.le_trans H.out.2.2.2.2 (by decide)) (cells_held (H1.out.2.1.held H.out.1 H.out.2.1))).mono ?_); rintro e w2 ⟨g, k1, rfl, hg, hg2, hk1, hc2, hfz, hE2⟩; have H2 := Lib.hid (And.intro hE2 (And.intro hg (And.intro hg2 (And.intro hk1 (held_cells hc2))))); clear hg hg2 hk1 hc2 hfz hE2)
    | (go_at_call 58; go_must (refine (SBG_any w.heap.size g k1 l P w2 (H2.out.1.lt H1.out.1) H2.out.2.2.1 (H2.out.1.free H1.out.1 H1.out.2.2) H2.out.2.2.2.2 H.out.2.2.1 H2.out.2.2.2.1).mono ?_); rintro e w3 ⟨rfl, hT, hP3⟩; have H3 := Lib.hid (And.intro hT hP3); clear hT hP3)
    | (first
      | (refine wp_grow (l := [_, _, _, _, _]) (by kernel_rfl) (by kernel_rfl) ?_; (try simp only [act_put_none]); (repeat (first | go_big_quiet_skip | (go_big_quiet_want; go_big_quiet_op; first | go_big_quiet_on))); refine wpQuiet_nil ?_; intro _ hw'; obtain ⟨g', hw''⟩ := hw'; subst hw''))
    | fail)
  have hE3 : Ext w w3 := Turned.ext_of_new (H1.out.2.1.trans H2.out.1) H3.out.1 (Nat.le_refl _)
  have l3 : w.heap.size < w3.heap.size := H3.out.1.lt (H2.out.1.lt H1.out.1)
  have f3 : Free w3 w.heap.size 0 12 := (H2.out.1.free H1.out.1 H1.out.2.2).hp H3.out.1 H3.out.2 (H2.out.1.lt H1.out.1)
  exact bodyPost_ret (v := .tuple #[.pointer (some ⟨w.heap.size, 0, none⟩), .bool true]) (by simp [results, Try.results56, go_sem]) rfl ⟨_, rfl, Nat.le_refl _, (Ext.gr _ _).lt l3, hE3.trans (Ext.gr _ _), (Ext.gr _ _).free l3 f3, (Ext.gr _ _).hp l3 H3.out.2⟩
end Go.Proofs.Ytmepgkcijeobkaa
/-
  What is proved here: a point that is set to bytes that tell none.
  Conditions: those of each theorem.
-/
namespace Go.Proofs.Ytmepgkcijeobkaa
open Go Go.RowKit Ecp
set_option linter.unusedSimpArgs false
set_option linter.unusedVariables false

theorem be_split {l : List Int} (hl : l.length = 32) (hb : ∀ x ∈ l, 0 ≤ x ∧ x < 256) : ∃ X : Int, 0 ≤ X ∧ X < R256 ∧ l = (bds 32 X).reverse := by
  have hb' : ∀ x ∈ l.reverse, 0 ≤ x ∧ x < 256 := fun x hx => hb x (List.mem_reverse.mp hx)
  have e := bds_bal l.reverse hb'
  rw [List.length_reverse, hl] at e
  have hbal := bal_bds 32 (bal l.reverse)
  rw [e] at hbal
  have h := bal_bd l.reverse hb'
  rw [List.length_reverse, hl] at h
  refine ⟨bal l.reverse, h.1, h.2, ?_⟩
  rw [e, List.reverse_reverse]
theorem fpx_of {X : Int} (h0 : 0 ≤ X) (h : X < pI) : ∃ x : Fp, (x.val : Int) = X := by
  have hp : pI = (pN : Int) := by decide +kernel
  exact ⟨⟨X.toNat, by omega⟩, by show ((X.toNat : Nat) : Int) = X; omega⟩
theorem onc_of_root {x y : Fp} (h : y * y = x * x * x - (x + x + x) + cB) : Onc x y := by
  have e : x + x + x = 3 * x := by
    have : ∀ z : Fin pN, z + z + z = 3 * z := fun z => by grind -lia
    exact this x
  rw [e] at h; exact h
theorem root_any {x : Fp} {v : Int} (hv : v = 2 ∨ v = 3) (hr : fpow (x * x * x - (x + x + x) + cB) ((pN + 1) / 4) * fpow (x * x * x - (x + x + x) + cB) ((pN + 1) / 4) = x * x * x - (x + x + x) + cB) : ∃ y, Onc x y ∧ 2 + (y.val : Int) % 2 = v := by
  have ho := onc_of_root hr
  generalize fpow (x * x * x - (x + x + x) + cB) ((pN + 1) / 4) = r at ho
  have hp := neg_par ho.y_ne
  by_cases h : 2 + (r.val : Int) % 2 = v
  · exact ⟨r, ho, h⟩
  · refine ⟨0 - r, ho.neg, ?_⟩
    rw [hp]
    omega

theorem SBB_any (q c k : Nat) (l : List Int) (w : World) (hq : q < w.heap.size) (hc : c < w.heap.size) (hf : Free w q 0 12) (hl : Held .u8 w c 0 l) (hb : ∀ x ∈ l, 0 ≤ x ∧ x < 256) (hn : ∀ P, ¬ Cod l P) (hk : l.length ≤ k) :
    Calls Try.prog 58 #[.pointer (some ⟨q, 0, none⟩), .slice (some ⟨c, 0, none⟩) l.length k] w fun e w' => (∃ t u, e = .returned (.tuple #[.pointer none, .iface t u])) ∧ Ext w w' := by
  by_cases h1 : l.length = 1
  · obtain ⟨v, rfl⟩ := List.length_eq_one_iff.mp h1
    exact SB_def1 q c k w v (hl 0 v rfl) (fun e => hn .far (.inl ⟨by rw [e], rfl⟩))
  by_cases h65 : l.length = 65
  · obtain ⟨v, A, B, rfl, hA, hB⟩ : ∃ v A B, l = [v] ++ A ++ B ∧ A.length = 32 ∧ B.length = 32 := by
      cases l with
      | nil => simp at h65
      | cons v t =>
        have ht : t.length = 64 := by simpa using h65
        exact ⟨v, t.take 32, t.drop 32, by simp, by simp [ht], by simp [ht]⟩
    have hy := Held.tail hl
    rw [show 0 + ([v] ++ A).length = 33 from by simp [hA]] at hy
    have hx : Held .u8 w c 1 A := Held.part (xs := [v]) hl
    have h0 := hl 0 v rfl
    rw [h65] at hk ⊢
    by_cases h4 : v = 4
    · subst h4
      obtain ⟨X, x0, x1, rfl⟩ := be_split hA (fun x hx => hb x (by simp [hx]))
      obtain ⟨Y, y0, y1, rfl⟩ := be_split hB (fun x hx => hb x (by simp [hx]))
      by_cases hX : X < pI
      · obtain ⟨x, rfl⟩ := fpx_of x0 hX
        by_cases hY : Y < pI
        · obtain ⟨y, rfl⟩ := fpx_of y0 hY
          exact SB_off q c k w hq hc hf x y h0 hx hy (fun ho => hn (.aff x y) (.inr ⟨x, y, ho, rfl, .inl rfl⟩)) hk
        · exact SB_bady65 q c k w hq hc hf x Y y0 y1 hY h0 hx hy hk
      · exact SB_badx65 q c k w hq hc X x0 x1 hX h0 hx hk
    · exact SB_def65 q c k w v h0 h4
  by_cases h33 : l.length = 33
  · obtain ⟨v, A, rfl, hA⟩ : ∃ v A, l = [v] ++ A ∧ A.length = 32 := by
      cases l with
      | nil => simp at h33
      | cons v t => exact ⟨v, t, rfl, by simpa using h33⟩
    have hx : Held .u8 w c 1 A := Held.tail (xs := [v]) hl
    have h0 := hl 0 v rfl
    rw [h33] at hk ⊢
    by_cases h2 : v = 2 ∨ v = 3
    · obtain ⟨X, x0, x1, rfl⟩ := be_split hA (fun x hx => hb x (by simp [hx]))
      by_cases hX : X < pI
      · obtain ⟨x, rfl⟩ := fpx_of x0 hX
        have hr : ¬ fpow (x * x * x - (x + x + x) + cB) ((pN + 1) / 4) * fpow (x * x * x - (x + x + x) + cB) ((pN + 1) / 4) = x * x * x - (x + x + x) + cB := fun hr => by
          obtain ⟨y, ho, e⟩ := root_any h2 hr
          exact hn (.aff x y) (.inr ⟨x, y, ho, rfl, .inr (by rw [e]; rfl)⟩)
        rcases h2 with rfl | rfl
        · exact SB_noroot_2 q c k w hq hc hf x h0 hx hr hk
        · exact SB_noroot_3 q c k w hq hc hf x h0 hx hr hk
      · rcases h2 with rfl | rfl
        · exact SB_badx33_2 q c k w hq hc X x0 x1 hX h0 hx hk
        · exact SB_badx33_3 q c k w hq hc X x0 x1 hX h0 hx hk
    · exact SB_def33 q c k w v h0 (fun e => h2 (.inl e)) (fun e => h2 (.inr e))
  exact SB_def q k _ w l.length (by omega) (by omega) (by omega)
end Go.Proofs.Ytmepgkcijeobkaa
