/-
  What is proved here: what the point's methods return, by places that hold a point.
  Conditions: those of each theorem.
-/
import Derived.Test.YtgdjmgcolipcnaaProg
import Derived.Test.YtgdjmgcolipcnaaPts
import Derived.Test.YtgdjmgcolipcnaaDbl
import Derived.Test.YtgdjmgcolipcnaaFldAlgAlgB
import Derived.Test.YtgdjmgcolipcnaaPrj
import Derived.WalkKit
import Derived.WalkSpells
import Derived.Outline
import Derived.Handy
import Derived.ProofKit
import Derived.Deep.QuietTactic
import Derived.BigQuiet
import Derived.Lib.Hide
import Derived.OpenShut
namespace Go.Proofs.Ytgdjmgcolipcnaa
open Go Go.RowKit Ecp
set_option linter.unusedSimpArgs false
set_option linter.unusedVariables false

noncomputable def defsF_pset : List FEx := []
set_option maxRecDepth 1000000 in
theorem runF_pset : ((Try.f45.body).bind fun c => (runCF DF 3 2 12 c { sz := Try.f45.ntmps, np := 2, env := [(0, .ptr 0 0), (1, .ptr 1 0)], defs := [], mem := [((1, 0), 0), ((1, 4), 1), ((1, 8), 2)], lens := [], al := true }).map fun p => (p.1.defs, lookP p.1.mem 0 0, lookP p.1.mem 0 4, lookP p.1.mem 0 8, lookL p.1.env 4)) =
    some (defsF_pset, some 0, some 1, some 2, some (.ptr 0 0)) := by kernel_rfl

theorem PSet_any (b o b1 o1 : Nat) (X Y Z : Fp) (w : World) (hb : b < w.heap.size) (hb1 : b1 < w.heap.size) (hf : Free w b o 12) (h1 : Pnt w b1 o1 X Y Z) (ha1 : Apart b o b1 o1 12) :
    Calls Try.prog 45 #[.pointer (some ⟨b, o, none⟩), .pointer (some ⟨b1, o1, none⟩)] w fun e w' => e = .returned (.pointer (some ⟨b, o, none⟩)) ∧ Turned b o 12 w w' ∧ Pnt w' b o X Y Z := by
  refine (engF_pts (β := (fun p => if p = 0 then b else b1)) (γ := (fun p => if p = 0 then o else o1)) (ins := fun i => [X, Y, Z].getD i 0) SF Try.func45 rfl runF_pset (by decide) (FR.start rfl (by simp <;> decide) ?_ (by decide) ?_ ?_ ?_ hf (by decide))).mono ?_
  · intro t v h
    simp only [List.mem_cons, List.not_mem_nil, or_false, Prod.mk.injEq] at h
    rcases h with ⟨rfl, rfl⟩ | ⟨rfl, rfl⟩
    all_goals exact ⟨by simp, rfl, by simp [FV.lt]⟩
  · intro p q i h
    simp only [List.mem_cons, List.not_mem_nil, or_false, Prod.mk.injEq] at h
    rcases h with ⟨⟨rfl, rfl⟩, rfl⟩ | ⟨⟨rfl, rfl⟩, rfl⟩ | ⟨⟨rfl, rfl⟩, rfl⟩
    · exact ⟨by decide, by decide, by decide, by decide, h1.1⟩
    · exact ⟨by decide, by decide, by decide, by decide, h1.2.1⟩
    · exact ⟨by decide, by decide, by decide, by decide, h1.2.2⟩
  · intro p hp
    rcases (show p = 0 ∨ p = 1 by omega) with rfl | rfl
    · exact hb
    · exact hb1
  · intro p hp0 hp
    rcases (show p = 1 by omega) with rfl
    · exact ha1
  · rintro e w' ⟨he, hT, hX, hY, hZ⟩
    exact ⟨he, hT, hX, hY, hZ⟩

/-- What was free stays free where a point is laid. -/
theorem Free.pnt {w w' : World} {b o len b' o' : Nat} {X Y Z : Fp} (h : Free w b o len) (hT : Turned b' o' 12 w w') (hE : Pnt w' b' o' X Y Z) (hb : b < w.heap.size) : Free w' b o len := by
  intro i hi
  obtain ⟨⟨u, hu⟩, hf⟩ := h i hi
  by_cases e : b = b'
  · subst e
    refine ⟨?_, by rw [hT.frz]; exact hf⟩
    have el : ∀ (o'' : Nat) (x : Fp), Elt w' b o'' x → o'' ≤ o + i → o + i < o'' + 4 → ∃ u, w'.cell? ⟨b, o + i, none⟩ = some (.int .u64 u) := fun o'' x hx h1 h2 => by
      have hl : o + i - o'' < (qds 4 (mont x)).length := by rw [qds_length]; omega
      have := hx (o + i - o'') _ (List.getElem?_eq_getElem hl)
      rw [show o'' + (o + i - o'') = o + i by omega] at this
      exact ⟨_, this⟩
    by_cases hin : o' ≤ o + i ∧ o + i < o' + 12
    · by_cases h1 : o + i < o' + 4
      · obtain ⟨u, hu⟩ := el o' X hE.1 hin.1 h1; exact ⟨_, hu⟩
      · by_cases h2 : o + i < o' + 8
        · obtain ⟨u, hu⟩ := el (o' + 4) Y hE.2.1 (by omega) (by omega); exact ⟨_, hu⟩
        · obtain ⟨u, hu⟩ := el (o' + 8) Z hE.2.2 (by omega) (by omega); exact ⟨_, hu⟩
    · rw [hT.keep (o + i) (fun j hj => by omega)]
      exact ⟨u, hu⟩
  · exact ⟨⟨u, by rw [hT.away.cell hb e]; exact hu⟩, by rw [hT.away.frozen hb e]; exact hf⟩
/-- A place holds a point. -/
def Hp (w : World) (b o : Nat) (p : Pt) : Prop := ∃ X Y Z : Fp, Pnt w b o X Y Z ∧ affOk X Y Z ∧ affP X Y Z = p
theorem Hp.far {w w' : World} {b o b' o' len : Nat} {p : Pt} (h : Hp w b o p) (hT : Turned b' o' len w w') (hb : b < w.heap.size) (hd : b ≠ b' ∨ o + 12 ≤ o' ∨ o' + len ≤ o) : Hp w' b o p := by
  obtain ⟨X, Y, Z, h1, h2⟩ := h
  exact ⟨X, Y, Z, h1.far hT hb hd, h2⟩
theorem Ext.hp {u v : World} (h : Ext u v) {b o : Nat} {p : Pt} (hb : b < u.heap.size) (hh : Hp u b o p) : Hp v b o p := by
  obtain ⟨X, Y, Z, h1, h2⟩ := hh
  exact ⟨X, Y, Z, h.pnt hb h1, h2⟩
theorem Hp.alloc {w : World} {b o : Nat} {p : Pt} (h : Hp w b o p) (hb : b < w.heap.size) (ob : Obj) : Hp (w.alloc ob) b o p := (Ext.al w ob).hp hb h
theorem addOk {x y z x2 y2 z2 : Fp} (h1 : affOk x y z) (h2 : affOk x2 y2 z2) : affOk (addX x y z x2 y2 z2) (addY x y z x2 y2 z2) (addZ x y z x2 y2 z2) ∧ affP (addX x y z x2 y2 z2) (addY x y z x2 y2 z2) (addZ x y z x2 y2 z2) = psum (affP x y z) (affP x2 y2 z2) := by
  have r1 := rep_of_ok h1
  have r2 := rep_of_ok h2
  exact ok_of_rep (add_rep r1.1 r2.1 r1.2 r2.2) (psum_on r1.2 r2.2)
theorem Hp.on {w : World} {b o : Nat} {p : Pt} (h : Hp w b o p) : p.on := by
  obtain ⟨X, Y, Z, _, h1, rfl⟩ := h
  exact (rep_of_ok h1).2
theorem finv_one : finv (1 : Fp) = 1 := finv_of (g_one_mul 1)
theorem aff_one (x y : Fp) : affP x y 1 = .aff x y := by unfold affP; rw [if_neg one_ne, finv_one, g_mul_one, g_mul_one]
theorem ok_one (x y : Fp) (h : Onc x y) : affOk x y 1 := by unfold affOk; rw [if_neg one_ne, finv_one, g_mul_one, g_mul_one]; exact h
theorem AddHp (b o b1 o1 b2 o2 : Nat) (p q : Pt) (w : World) (hb : b < w.heap.size) (hb1 : b1 < w.heap.size) (hb2 : b2 < w.heap.size) (hf : Free w b o 12) (h1 : Hp w b1 o1 p) (h2 : Hp w b2 o2 q) (ha1 : Apart b o b1 o1 12) (ha2 : Apart b o b2 o2 12) :
    Calls Try.prog 33 #[.pointer (some ⟨b, o, none⟩), .pointer (some ⟨b1, o1, none⟩), .pointer (some ⟨b2, o2, none⟩)] w fun e w' => e = .returned (.pointer (some ⟨b, o, none⟩)) ∧ Turned b o 12 w w' ∧ Hp w' b o (psum p q) ∧ (∀ c k len, c < w.heap.size → Free w c k len → Free w' c k len) := by
  obtain ⟨X1, Y1, Z1, p1, k1, rfl⟩ := h1
  obtain ⟨X2, Y2, Z2, p2, k2, rfl⟩ := h2
  refine (Add_any b o b1 o1 b2 o2 X1 Y1 Z1 X2 Y2 Z2 w hb hb1 hb2 hf p1 p2 ha1 ha2).mono ?_
  rintro e w' ⟨rfl, hT, hP⟩
  have ha := addOk k1 k2
  exact ⟨rfl, hT, ⟨_, _, _, hP, ha.1, ha.2⟩, fun c k len hc hF => hF.pnt hT hP hc⟩
theorem DoubleHp (b o b1 o1 : Nat) (p : Pt) (w : World) (hb : b < w.heap.size) (hb1 : b1 < w.heap.size) (hf : Free w b o 12) (h1 : Hp w b1 o1 p) (ha1 : Apart b o b1 o1 12) :
    Calls Try.prog 31 #[.pointer (some ⟨b, o, none⟩), .pointer (some ⟨b1, o1, none⟩)] w fun e w' => e = .returned (.pointer (some ⟨b, o, none⟩)) ∧ Turned b o 12 w w' ∧ Hp w' b o (psum p p) ∧ (∀ c k len, c < w.heap.size → Free w c k len → Free w' c k len) := by
  obtain ⟨X1, Y1, Z1, p1, k1, rfl⟩ := h1
  refine (Double_any b o b1 o1 X1 Y1 Z1 w hb hb1 hf p1 ha1 (hom_of_ok k1)).mono ?_
  rintro e w' ⟨rfl, hT, hP⟩
  have ha := addOk k1 k1
  exact ⟨rfl, hT, ⟨_, _, _, hP, ha.1, ha.2⟩, fun c k len hc hF => hF.pnt hT hP hc⟩
theorem SetHp (b o b1 o1 : Nat) (p : Pt) (w : World) (hb : b < w.heap.size) (hb1 : b1 < w.heap.size) (hf : Free w b o 12) (h1 : Hp w b1 o1 p) (ha1 : Apart b o b1 o1 12) :
    Calls Try.prog 45 #[.pointer (some ⟨b, o, none⟩), .pointer (some ⟨b1, o1, none⟩)] w fun e w' => e = .returned (.pointer (some ⟨b, o, none⟩)) ∧ Turned b o 12 w w' ∧ Hp w' b o p ∧ (∀ c k len, c < w.heap.size → Free w c k len → Free w' c k len) := by
  obtain ⟨X1, Y1, Z1, p1, k1, rfl⟩ := h1
  refine (PSet_any b o b1 o1 X1 Y1 Z1 w hb hb1 hf p1 ha1).mono ?_
  rintro e w' ⟨rfl, hT, hP⟩
  exact ⟨rfl, hT, ⟨_, _, _, hP, k1, rfl⟩, fun c k len hc hF => hF.pnt hT hP hc⟩
theorem SelHp (b o b1 o1 b2 o2 : Nat) (p q : Pt) (one : Bool) (w : World) (hb : b < w.heap.size) (hb1 : b1 < w.heap.size) (hb2 : b2 < w.heap.size) (hf : Free w b o 12) (h1 : Hp w b1 o1 p) (h2 : Hp w b2 o2 q) (ha1 : Apart b o b1 o1 12) (ha2 : Apart b o b2 o2 12) :
    Calls Try.prog 47 #[.pointer (some ⟨b, o, none⟩), .pointer (some ⟨b1, o1, none⟩), .pointer (some ⟨b2, o2, none⟩), .int .i64 (if one then 1 else 0)] w fun e w' => e = .returned (.pointer (some ⟨b, o, none⟩)) ∧ Turned b o 12 w w' ∧ Hp w' b o (if one then p else q) ∧ (∀ c k len, c < w.heap.size → Free w c k len → Free w' c k len) := by
  obtain ⟨X1, Y1, Z1, p1, k1, rfl⟩ := h1
  obtain ⟨X2, Y2, Z2, p2, k2, rfl⟩ := h2
  cases one with
  | false =>
    refine (PSelect0_any b o b1 o1 b2 o2 X1 Y1 Z1 X2 Y2 Z2 w hb hb1 hb2 hf p1 p2 ha1 ha2).mono ?_
    rintro e w' ⟨rfl, hT, hP⟩
    exact ⟨rfl, hT, ⟨_, _, _, hP, k2, rfl⟩, fun c k len hc hF => hF.pnt hT hP hc⟩
  | true =>
    refine (PSelect1_any b o b1 o1 b2 o2 X1 Y1 Z1 X2 Y2 Z2 w hb hb1 hb2 hf p1 p2 ha1 ha2).mono ?_
    rintro e w' ⟨rfl, hT, hP⟩
    exact ⟨rfl, hT, ⟨_, _, _, hP, k1, rfl⟩, fun c k len hc hF => hF.pnt hT hP hc⟩
theorem NewHp (w : World) : Calls Try.prog 16 #[] w fun e w' => e = .returned (.pointer (some ⟨w.heap.size, 0, none⟩)) ∧ w.heap.size < w'.heap.size ∧ Ext w w' ∧ Free w' w.heap.size 0 12 ∧ Hp w' w.heap.size 0 .far := by
  refine (NewPoint_any w).mono ?_
  rintro e w' ⟨rfl, h1, h2, h3, h4⟩
  refine ⟨rfl, h1, h2, h3, 0, 1, 0, h4, ?_, ?_⟩
  · unfold affOk; rw [if_pos rfl]; exact ⟨rfl, by decide⟩
  · unfold affP; rw [if_pos rfl]
theorem NegHp (b o : Nat) (p : Pt) (one : Bool) (w : World) (hb : b < w.heap.size) (hf : Free w b o 12) (h : Hp w b o p) :
    Calls Try.prog 32 #[.pointer (some ⟨b, o, none⟩), .int .i64 (if one then 1 else 0)] w fun e w' => e = .returned (.pointer (some ⟨b, o, none⟩)) ∧ Turned b o 12 w w' ∧ Hp w' b o (if one then pneg p else p) ∧ (∀ c k len, c < w.heap.size → Free w c k len → Free w' c k len) := by
  obtain ⟨X, Y, Z, p1, k1, rfl⟩ := h
  cases one with
  | false =>
    refine (Negate0_any b o X Y Z w hb hf p1).mono ?_
    rintro e w' ⟨rfl, hT, hP⟩
    exact ⟨rfl, hT, ⟨_, _, _, hP, k1, rfl⟩, fun c k len hc hF => hF.pnt hT hP hc⟩
  | true =>
    refine (Negate1_any b o X Y Z w hb hf p1).mono ?_
    rintro e w' ⟨rfl, hT, hP⟩
    have hr := rep_of_ok k1
    have hn := ok_of_rep hr.1.neg (pneg_on hr.2)
    exact ⟨rfl, hT, ⟨_, _, _, hP, hn.1, hn.2⟩, fun c k len hc hF => hF.pnt hT hP hc⟩
end Go.Proofs.Ytgdjmgcolipcnaa
/-
  What is proved here: what the point's methods return at places of their own that hold points.
  Conditions: those of each theorem.
-/
namespace Go.Proofs.Ytgdjmgcolipcnaa
open Go Go.RowKit Ecp
set_option linter.unusedSimpArgs false
set_option linter.unusedVariables false

theorem Free.hp {w w' : World} {b o len b' o' : Nat} {P : Pt} (h : Free w b o len) (hT : Turned b' o' 12 w w') (hE : Hp w' b' o' P) (hb : b < w.heap.size) : Free w' b o len := by
  obtain ⟨X, Y, Z, hp, _⟩ := hE
  exact h.pnt hT hp hb
/-- A place of its own that holds the point P. -/
def PtAt (w : World) (b : Nat) (P : Pt) : Prop := b < w.heap.size ∧ Free w b 0 12 ∧ Hp w b 0 P
theorem Ext.pt {u v : World} (h : Ext u v) {b : Nat} {P : Pt} (hp : PtAt u b P) : PtAt v b P := ⟨h.lt hp.1, h.free hp.1 hp.2.1, h.hp hp.1 hp.2.2⟩
theorem PtAt.lt {w : World} {b : Nat} {P : Pt} (h : PtAt w b P) : b < w.heap.size := h.1
theorem PtAt.far {w w' : World} {b b' : Nat} {P Q : Pt} (h : PtAt w b P) (hT : Turned b' 0 12 w w') (hq : PtAt w' b' Q) (hn : b ≠ b') : PtAt w' b P := ⟨hT.lt h.1, h.2.1.hp hT hq.2.2 h.1, h.2.2.far hT h.1 (.inl hn)⟩
theorem NewPt (w : World) : Calls Try.prog 16 #[] w fun e w' => e = .returned (.pointer (some ⟨w.heap.size, 0, none⟩)) ∧ Ext w w' ∧ PtAt w' w.heap.size .far := by
  refine (NewHp w).mono ?_
  rintro e w' ⟨rfl, h1, h2, h3, h4⟩
  exact ⟨rfl, h2, h1, h3, h4⟩
theorem AddPt (b b1 b2 : Nat) (R p q : Pt) (w : World) (hb : PtAt w b R) (h1 : PtAt w b1 p) (h2 : PtAt w b2 q) (a1 : b1 = b ∨ b1 ≠ b) (a2 : b2 = b ∨ b2 ≠ b) : Calls Try.prog 33 #[.pointer (some ⟨b, 0, none⟩), .pointer (some ⟨b1, 0, none⟩), .pointer (some ⟨b2, 0, none⟩)] w fun e w' => e = .returned (.pointer (some ⟨b, 0, none⟩)) ∧ Turned b 0 12 w w' ∧ PtAt w' b (psum p q) := by
  refine (AddHp b 0 b1 0 b2 0 p q w hb.1 h1.1 h2.1 hb.2.1 h1.2.2 h2.2.2 (by rcases a1 with rfl | a; exact apart_self; exact apart_ne a) (by rcases a2 with rfl | a; exact apart_self; exact apart_ne a)).mono ?_
  rintro e w' ⟨rfl, hT, hP, _⟩
  exact ⟨rfl, hT, hT.lt hb.1, hb.2.1.hp hT hP hb.1, hP⟩
theorem DblPt (b b1 : Nat) (R p : Pt) (w : World) (hb : PtAt w b R) (h1 : PtAt w b1 p) (a1 : b1 = b ∨ b1 ≠ b) : Calls Try.prog 31 #[.pointer (some ⟨b, 0, none⟩), .pointer (some ⟨b1, 0, none⟩)] w fun e w' => e = .returned (.pointer (some ⟨b, 0, none⟩)) ∧ Turned b 0 12 w w' ∧ PtAt w' b (psum p p) := by
  refine (DoubleHp b 0 b1 0 p w hb.1 h1.1 hb.2.1 h1.2.2 (by rcases a1 with rfl | a; exact apart_self; exact apart_ne a)).mono ?_
  rintro e w' ⟨rfl, hT, hP, _⟩
  exact ⟨rfl, hT, hT.lt hb.1, hb.2.1.hp hT hP hb.1, hP⟩
theorem NegPt (b : Nat) (p : Pt) (one : Bool) (w : World) (hb : PtAt w b p) : Calls Try.prog 32 #[.pointer (some ⟨b, 0, none⟩), .int .i64 (if one then 1 else 0)] w fun e w' => e = .returned (.pointer (some ⟨b, 0, none⟩)) ∧ Turned b 0 12 w w' ∧ PtAt w' b (if one then pneg p else p) := by
  refine (NegHp b 0 p one w hb.1 hb.2.1 hb.2.2).mono ?_
  rintro e w' ⟨rfl, hT, hP, _⟩
  exact ⟨rfl, hT, hT.lt hb.1, hb.2.1.hp hT hP hb.1, hP⟩
end Go.Proofs.Ytgdjmgcolipcnaa
