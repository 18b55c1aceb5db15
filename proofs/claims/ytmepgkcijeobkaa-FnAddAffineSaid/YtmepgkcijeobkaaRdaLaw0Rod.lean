/-
  What is proved here: what the reference reads of bytes that tell a point, and of bytes that tell none; how a slice of bytes that came in is opened.
  Conditions: those of each theorem.
-/
import Derived.Test.YtmepgkcijeobkaaProg
import Derived.Test.YtmepgkcijeobkaaRh
import Derived.Test.YtmepgkcijeobkaaClonImr
import Derived.ProofKit
import Derived.Test.YtmepgkcijeobkaaSamIs
namespace Go.Proofs.Ytmepgkcijeobkaa
open Go Go.RowKit Ecp
open Go.ChangeShapes Go.WideShapes Go.ChangeAt
set_option linter.unusedSimpArgs false
set_option linter.unusedVariables false

theorem Read_good (c o k : Nat) (l : List Int) (P : Pt) (w : World) (hc : c < w.heap.size) (hl : Held .u8 w c o l) (hP : Cod l P) (hk : l.length ≤ k) :
    Calls Try.prog 22 #[.slice (some ⟨c, o, none⟩) l.length k] w fun e w' => e = .returned (.tuple #[.agg (pv P), .bool true]) ∧ Ext w w' := by
  rcases hP with ⟨rfl, rfl⟩ | ⟨x, y, ho, rfl, rfl | rfl⟩
  · exact Read_far c o k w (hl 0 0 rfl)
  · have hx : Held .u8 w c (o + 1) (Bx x) := Held.part (xs := [4]) hl
    have hy := Held.tail hl
    have e33 : (([4] : List Int) ++ Bx x).length = 33 := by simp [Bx_len]
    rw [e33] at hy
    have h0 := hl 0 4 rfl
    have hlen : ([4] ++ Bx x ++ Bx y).length = 65 := by simp [Bx_len]
    rw [hlen] at hk ⊢
    have h := Read_65z c o k x y w hc h0 hx hy hk
    rw [decide_eq_true ho] at h
    exact h
  · have hx : Held .u8 w c (o + 1) (Bx x) := Held.tail (xs := [2 + (y.val : Int) % 2]) hl
    have h0 := hl 0 (2 + (y.val : Int) % 2) rfl
    have hlen : ([2 + (y.val : Int) % 2] ++ Bx x).length = 33 := by simp [Bx_len]
    rw [hlen] at hk ⊢
    have hp := neg_par ho.y_ne
    have hs := root_sq ho
    have hr := root_or ho
    generalize hrr : fpow (x * x * x - 3 * x + cB) ((pN + 1) / 4) = r at hs hr
    show Calls _ _ _ _ fun e w' => e = .returned (.tuple #[.agg (pc false (x.val : Int) (y.val : Int)), .bool true]) ∧ Ext w w'
    rcases hr with rfl | rfl
    · rcases Int.emod_two_eq (r.val : Int) with e | e
      · rw [e] at h0
        have h := Read_33z_20 c o k x _ r rfl hrr e w hc h0 hx hk
        rw [decide_eq_true hs] at h
        exact h
      · rw [e] at h0
        have h := Read_33z_31 c o k x _ r rfl hrr e w hc h0 hx hk
        rw [decide_eq_true hs] at h
        exact h
    · rcases Int.emod_two_eq (y.val : Int) with e | e
      · rw [e] at h0 hp
        have h := Read_33z_21 c o k x _ _ rfl hrr hp w hc h0 hx hk
        rw [decide_eq_true hs, g_neg_neg] at h
        exact h
      · rw [e] at h0 hp
        have h := Read_33z_30 c o k x _ _ rfl hrr hp w hc h0 hx hk
        rw [decide_eq_true hs, g_neg_neg] at h
        exact h
theorem root_any' {x : Fp} {v : Int} (hv : v = 2 ∨ v = 3) (hr : fpow (x * x * x - 3 * x + cB) ((pN + 1) / 4) * fpow (x * x * x - 3 * x + cB) ((pN + 1) / 4) = x * x * x - 3 * x + cB) : ∃ y, Onc x y ∧ 2 + (y.val : Int) % 2 = v := by
  have ho : Onc x _ := hr
  generalize fpow (x * x * x - 3 * x + cB) ((pN + 1) / 4) = r at ho
  have hp := neg_par ho.y_ne
  by_cases h : 2 + (r.val : Int) % 2 = v
  · exact ⟨r, ho, h⟩
  · refine ⟨0 - r, ho.neg, ?_⟩
    rw [hp]
    omega
theorem Read_bad (c o k : Nat) (l : List Int) (w : World) (hc : c < w.heap.size) (hl : Held .u8 w c o l) (hb : ∀ x ∈ l, 0 ≤ x ∧ x < 256) (hn : ∀ P, ¬ Cod l P) (hk : l.length ≤ k) :
    ∃ f X Y, ∀ w', Ext w w' → Calls Try.prog 22 #[.slice (some ⟨c, o, none⟩) l.length k] w' fun e w'' => e = .returned (.tuple #[.agg (pc f X Y), .bool false]) ∧ Ext w' w'' := by
  by_cases h1 : l.length = 1
  · obtain ⟨v, rfl⟩ := List.length_eq_one_iff.mp h1
    exact ⟨_, _, _, fun w' hE => Read_bad1 c o k v w' (hE.held hc hl 0 v rfl) (fun e => hn .far (.inl ⟨by rw [e], rfl⟩))⟩
  by_cases h65 : l.length = 65
  · obtain ⟨v, A, B, rfl, hA, hB⟩ : ∃ v A B, l = [v] ++ A ++ B ∧ A.length = 32 ∧ B.length = 32 := by
      cases l with
      | nil => simp at h65
      | cons v t =>
        have ht : t.length = 64 := by simpa using h65
        exact ⟨v, t.take 32, t.drop 32, by simp, by simp [ht], by simp [ht]⟩
    have hy := Held.tail hl
    rw [show ([v] ++ A).length = 33 from by simp [hA]] at hy
    have hx : Held .u8 w c (o + 1) A := Held.part (xs := [v]) hl
    have h0 : ∀ w', Ext w w' → w'.cell? ⟨c, o, none⟩ = some (.int .u8 v) := fun w' hE => hE.held hc hl 0 v rfl
    rw [h65] at hk ⊢
    by_cases h4 : v = 4
    · subst h4
      obtain ⟨X, x0, x1, rfl⟩ := be_split hA (fun x hx => hb x (by simp [hx]))
      obtain ⟨Y, y0, y1, rfl⟩ := be_split hB (fun x hx => hb x (by simp [hx]))
      by_cases hX : X < pI
      · by_cases hY : Y < pI
        · obtain ⟨x, rfl⟩ := fpx_of x0 hX
          obtain ⟨y, rfl⟩ := fpx_of y0 hY
          have ho : ¬ Onc x y := fun ho => hn (.aff x y) (.inr ⟨x, y, ho, rfl, .inl rfl⟩)
          refine ⟨false, (x.val : Int), (y.val : Int), fun w' hE => ?_⟩
          have h := Read_65z c o k x y w' (hE.lt hc) (h0 w' hE) (hE.held hc hx) (hE.held hc hy) hk
          rw [decide_eq_false ho] at h
          exact h
        · exact ⟨_, _, _, fun w' hE => Read_65y c o k X Y x0 x1 y0 y1 hX hY w' (hE.lt hc) (h0 w' hE) (hE.held hc hx) (hE.held hc hy) hk⟩
      · exact ⟨_, _, _, fun w' hE => Read_65x c o k X Y x0 x1 y0 y1 hX w' (hE.lt hc) (h0 w' hE) (hE.held hc hx) (hE.held hc hy) hk⟩
    · exact ⟨_, _, _, fun w' hE => Read_bad65 c o k v w' (h0 w' hE) h4⟩
  by_cases h33 : l.length = 33
  · obtain ⟨v, A, rfl, hA⟩ : ∃ v A, l = [v] ++ A ∧ A.length = 32 := by
      cases l with
      | nil => simp at h33
      | cons v t => exact ⟨v, t, rfl, by simpa using h33⟩
    have hx : Held .u8 w c (o + 1) A := Held.tail (xs := [v]) hl
    have h0 : ∀ w', Ext w w' → w'.cell? ⟨c, o, none⟩ = some (.int .u8 v) := fun w' hE => hE.held hc hl 0 v rfl
    rw [h33] at hk ⊢
    by_cases h2 : v = 2 ∨ v = 3
    · obtain ⟨X, x0, x1, rfl⟩ := be_split hA (fun x hx => hb x (by simp [hx]))
      by_cases hX : X < pI
      · obtain ⟨x, rfl⟩ := fpx_of x0 hX
        have hr : ¬ fpow (x * x * x - 3 * x + cB) ((pN + 1) / 4) * fpow (x * x * x - 3 * x + cB) ((pN + 1) / 4) = x * x * x - 3 * x + cB := fun hr => by
          obtain ⟨y, ho, e⟩ := root_any' h2 hr
          exact hn (.aff x y) (.inr ⟨x, y, ho, rfl, .inr (by rw [e]; rfl)⟩)
        generalize hrr : fpow (x * x * x - 3 * x + cB) ((pN + 1) / 4) = r at hr
        rcases h2 with rfl | rfl
        · rcases Int.emod_two_eq (r.val : Int) with e | e
          · refine ⟨false, (x.val : Int), (r.val : Int), fun w' hE => ?_⟩
            have h := Read_33z_20 c o k x _ r rfl hrr e w' (hE.lt hc) (h0 w' hE) (hE.held hc hx) hk
            rw [decide_eq_false hr] at h
            exact h
          · refine ⟨false, (x.val : Int), ((0 - r : Fp).val : Int), fun w' hE => ?_⟩
            have h := Read_33z_21 c o k x _ r rfl hrr e w' (hE.lt hc) (h0 w' hE) (hE.held hc hx) hk
            rw [decide_eq_false hr] at h
            exact h
        · rcases Int.emod_two_eq (r.val : Int) with e | e
          · refine ⟨false, (x.val : Int), ((0 - r : Fp).val : Int), fun w' hE => ?_⟩
            have h := Read_33z_30 c o k x _ r rfl hrr e w' (hE.lt hc) (h0 w' hE) (hE.held hc hx) hk
            rw [decide_eq_false hr] at h
            exact h
          · refine ⟨false, (x.val : Int), (r.val : Int), fun w' hE => ?_⟩
            have h := Read_33z_31 c o k x _ r rfl hrr e w' (hE.lt hc) (h0 w' hE) (hE.held hc hx) hk
            rw [decide_eq_false hr] at h
            exact h
      · rcases h2 with rfl | rfl
        · exact ⟨_, _, _, fun w' hE => Read_33x_2 c o k X x0 x1 hX w' (hE.lt hc) (h0 w' hE) (hE.held hc hx) hk⟩
        · exact ⟨_, _, _, fun w' hE => Read_33x_3 c o k X x0 x1 hX w' (hE.lt hc) (h0 w' hE) (hE.held hc hx) hk⟩
    · exact ⟨_, _, _, fun w' hE => Read_bad33 c o k v w' (h0 w' hE) (fun e => h2 (.inl e)) (fun e => h2 (.inr e))⟩
  exact ⟨_, _, _, fun w' hE => Read_other _ l.length k w' (by omega) (by omega) (by omega)⟩
/-- Bytes that tell a point. -/
def Gd (w : World) (a : Option Addr) (n k : Nat) (P : Pt) : Prop := ∃ c o l, a = some ⟨c, o, none⟩ ∧ n = (l : List Int).length ∧ c < w.heap.size ∧ Held .u8 w c o l ∧ n ≤ k ∧ Cod l P
/-- Bytes that tell none. -/
def Bd (w : World) (a : Option Addr) (n k : Nat) : Prop := NoPt w (.slice a n k) ∧ n ≤ k
theorem Gd.small {w : World} {a : Option Addr} {n k : Nat} {P : Pt} (h : Gd w a n k P) : ¬ (2147483647 : Int) < n := by
  obtain ⟨c, o, l, _, rfl, _, _, _, h⟩ := h
  have := h.most
  omega
theorem Bd.small {w : World} {a : Option Addr} {n k : Nat} (h : Bd w a n k) : ¬ (2147483647 : Int) < n := by
  rcases h.1 with ⟨c, o, k', l, e, _, _, _, h2, _⟩ | ⟨_, _, e⟩ | ⟨_, e⟩
  · cases e; omega
  · cases e; omega
  · cases e; omega
theorem Gd.on {w : World} {a : Option Addr} {n k : Nat} {P : Pt} (h : Gd w a n k P) : P.on := by
  obtain ⟨c, o, l, _, rfl, _, _, _, h⟩ := h
  exact h.on
theorem Gd.read {w : World} {a : Option Addr} {n k : Nat} {P : Pt} (h : Gd w a n k P) (w' : World) (hE : Ext w w') : Calls Try.prog 22 #[.slice a n k] w' fun e w'' => e = .returned (.tuple #[.agg (pv P), .bool true]) ∧ Ext w' w'' := by
  obtain ⟨c, o, l, rfl, rfl, h1, h2, h3, h4⟩ := h
  exact Read_good c o k l P w' (hE.lt h1) (hE.held h1 h2) h4 h3
theorem Bd.read {w : World} {a : Option Addr} {n k : Nat} (h : Bd w a n k) : ∃ f X Y, ∀ w', Ext w w' → Calls Try.prog 22 #[.slice a n k] w' fun e w'' => e = .returned (.tuple #[.agg (pc f X Y), .bool false]) ∧ Ext w' w'' := by
  obtain ⟨h, hk⟩ := h
  rcases h with ⟨c, o, k', l, e, h1, h2, h3, h4, h5, h6⟩ | ⟨_, _, e⟩ | ⟨_, e⟩
  · cases e
    exact Read_bad c o k l w h1 h2 h5 h6 hk
  · cases e
    exact ⟨_, _, _, fun w' hE => Read_other _ 0 k w' (by decide) (by decide) (by decide)⟩
  · cases e
    exact ⟨_, _, _, fun w' hE => Read_other _ 0 k w' (by decide) (by decide) (by decide)⟩
/-- A slice of bytes that came in. -/
theorem bytes_in {H : Type} {enc : TypeId × Value → H} {W : World} {s : Value} {d0 : DataW H} {p : List MemPlace} (h0 : DataW.Trod enc Try.prog W 0 (fun _ => true) true 22 s d0 p) (hs : ∃ a n k, s = .slice a n k) :
    ∃ a n k, s = .slice a n k ∧ ((2147483647 : Int) < n ∨ Bd W a n k ∨ ∃ P, Gd W a n k P) := by
  obtain ⟨a0, n0, k0, rfl⟩ := hs
  refine ⟨a0, n0, k0, rfl, ?_⟩
  by_cases hn : (2147483647 : Int) < n0
  · exact .inl hn
  right
  obtain ⟨fuel, hf⟩ := h0
  rcases open_ints Try.underlying22 Try.underlying5 (by kernel_rfl) hf with ⟨hcs, hx⟩ | ⟨a, len', cap', zs, hcs, _, hl, hm, hz, hx, hcell, hwz⟩
  · simp [Value.cells] at hcs
    obtain ⟨rfl, rfl, rfl⟩ := hcs
    exact .inl ⟨.inr (.inr ⟨0, rfl⟩), Nat.le_refl _⟩
  · simp [Value.cells] at hcs
    obtain ⟨rfl, rfl, rfl⟩ := hcs
    simp only [if_true] at hz
    by_cases h0 : n0 = 0
    · subst h0
      exact .inl ⟨.inr (.inl ⟨a, k0, rfl⟩), Nat.zero_le _⟩
    · have hc0 := hcell 0 (by omega)
      have hsp := World.cell?_spot hc0
      obtain ⟨b, off, spot⟩ := a
      have hsp' : spot = none := by simpa [Addr.add] using hsp
      subst hsp'
      have hlen : (zs.take n0).length = n0 := by simp; omega
      have hh : Held .u8 W b off (zs.take n0) := fun i x hi => by
        have hi' : i < n0 := by
          have := (List.getElem?_eq_some_iff.1 hi).1
          omega
        have hz' : zs[i]? = some x := by
          rw [List.getElem?_take_of_lt hi'] at hi
          exact hi
        have hc := hcell i (by omega)
        have e : (Addr.mk b off none).add i = ⟨b, off + i, none⟩ := by
          unfold Addr.add
          split
          · rename_i e0; rw [e0]; rfl
          · rfl
        rw [e] at hc
        rw [hc]
        simp [List.getD, hz']
      have hb : ∀ x ∈ zs.take n0, 0 ≤ x ∧ x < 256 := fun x hx => by
        have := bounds_u8 (hwz x (List.mem_of_mem_take hx))
        omega
      have hlt : b < W.heap.size := by
        have h := hh 0 ((zs.take n0).getD 0 0) (getD_in' (by omega))
        exact lt_of_cell h
      by_cases hP : ∃ P, Cod (zs.take n0) P
      · obtain ⟨P, hP⟩ := hP
        exact .inr ⟨P, b, off, _, rfl, hlen.symm, hlt, hh, hl, hP⟩
      · refine .inl ⟨.inl ⟨b, off, k0, zs.take n0, by rw [hlen], hlt, hh, by omega, by omega, hb, fun P h => hP ⟨P, h⟩⟩, hl⟩
end Go.Proofs.Ytmepgkcijeobkaa
/-
  What is proved here: what the laws on points lean on: bytes that are what is told of a point, bytes that are the same ones.
  Conditions: those of each theorem.
-/
namespace Go.Proofs.Ytmepgkcijeobkaa
open Go Go.RowKit Ecp
set_option linter.unusedVariables false
theorem pv_row (q : Pt) : ∃ f X Y, pv q = pc f X Y := by
  cases q with
  | far => exact ⟨_, _, _, rfl⟩
  | aff a b => exact ⟨_, _, _, rfl⟩
theorem held_other {k : IntKind} {w : World} {b o c : Nat} {l : List Int} {row : Array Value} (h : Held k w b o l) (hn : b ≠ c) : Held k (w.setRow c row) b o l := fun i x hi => by
  have h1 := h i x hi
  unfold World.cell? at h1 ⊢
  rw [setRow_other w c b row hn]
  exact h1
theorem is_self (c k : Nat) (p : Pt) (w : World) (hc : c < w.heap.size) (hl : Held .u8 w c 0 (wrL p)) : Calls Try.prog 29 #[.slice (some ⟨c, 0, none⟩) (wrL p).length k, .agg (pv p)] w fun e w' => e = .returned (.bool true) ∧ Ext w w' := by
  have h := is_any c 0 k (wrL p) p w hc hl (wrL_bd p)
  rw [decide_eq_true rfl] at h
  exact h
theorem same_self (c k c2 k2 : Nat) (l : List Int) (w : World) (hl : Held .u8 w c 0 l) (hb : ∀ x ∈ l, 0 ≤ x ∧ x < 256) (hl2 : Held .u8 w c2 0 l) : Calls Try.prog 25 #[.slice (some ⟨c, 0, none⟩) l.length k, .slice (some ⟨c2, 0, none⟩) l.length k2] w fun e w' => e = .returned (.bool true) ∧ Ext w w' := by
  have h := same_any c 0 k c2 0 k2 l l w hl hb hl2 hb
  rw [decide_eq_true rfl] at h
  exact h
theorem shL_bd (p : Pt) : ∀ v ∈ shL p, 0 ≤ v ∧ v < 256 := by
  cases p with
  | far => intro v hv; simp [shL] at hv; omega
  | aff x y =>
    intro v hv
    simp only [shL, List.mem_append, List.mem_singleton] at hv
    rcases hv with rfl | h
    · omega
    · exact Bx_bd x v h
theorem cod_sh {p : Pt} (h : p.on) : Cod (shL p) p := by
  cases p with
  | far => exact .inl ⟨rfl, rfl⟩
  | aff x y => exact .inr ⟨x, y, h, rfl, .inr rfl⟩
theorem cod_wr {p : Pt} (h : p.on) : Cod (wrL p) p := by
  cases p with
  | far => exact .inl ⟨rfl, rfl⟩
  | aff x y => exact .inr ⟨x, y, h, rfl, .inl rfl⟩
end Go.Proofs.Ytmepgkcijeobkaa
