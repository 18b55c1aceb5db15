/-
  What is proved here: what impl.AddAffine returns at bytes that tell a point.
  Conditions: those of each theorem.
-/
import Derived.Test.YtmepgkcijeobkaaProg
import Derived.Test.YtmepgkcijeobkaaMix
import Derived.Test.YtmepgkcijeobkaaImq
import Derived.WalkKit
import Derived.WalkSpells
import Derived.Outline
import Derived.Handy
import Derived.ProofKit
import Derived.Deep.QuietTactic
import Derived.BigQuiet
import Derived.Lib.Hide
import Derived.OpenShut
namespace Go.Proofs.Ytmepgkcijeobkaa
open Go Go.RowKit Ecp
set_option linter.unusedSimpArgs false
set_option linter.unusedVariables false

theorem AffPt0 (b b1 b2 : Nat) (p : Pt) (x y : Fp) (w : World) (hb : PtAt w b p) (hb1 : b1 < w.heap.size) (hb2 : b2 < w.heap.size) (hx : Elt w b1 0 x) (hy : Elt w b2 0 y) (ho : Onc x y) :
    Calls Try.prog 76 #[.pointer (some ⟨b, 0, none⟩), .pointer (some ⟨b1, 0, none⟩), .pointer (some ⟨b2, 0, none⟩), .int .i64 0] w fun e w' => ∃ c, e = .returned (.pointer (some ⟨c, 0, none⟩)) ∧ c < w'.heap.size ∧ Ext w w' ∧ Hp w' c 0 (psum p (.aff x y)) := by
  obtain ⟨h1, _, X, Y, Z, hp, hk, rfl⟩ := hb
  refine (ZZAff0_any b b1 b2 X Y Z x y w h1 hb1 hb2 hp hx hy).mono ?_
  rintro e w' ⟨c, rfl, hl, hE, hP⟩
  have hh := addOk hk (ok_one x y ho)
  rw [aff_one] at hh
  exact ⟨c, rfl, hl, hE, _, _, _, hP, hh⟩
theorem AffPt1 (b b1 b2 : Nat) (p : Pt) (x y : Fp) (w : World) (hb : PtAt w b p) (hb1 : b1 < w.heap.size) (hb2 : b2 < w.heap.size) (hx : Elt w b1 0 x) (hy : Elt w b2 0 y)  :
    Calls Try.prog 76 #[.pointer (some ⟨b, 0, none⟩), .pointer (some ⟨b1, 0, none⟩), .pointer (some ⟨b2, 0, none⟩), .int .i64 1] w fun e w' => ∃ c, e = .returned (.pointer (some ⟨c, 0, none⟩)) ∧ c < w'.heap.size ∧ Ext w w' ∧ Hp w' c 0 (p) := by
  obtain ⟨h1, _, X, Y, Z, hp, hk, rfl⟩ := hb
  refine (ZZAff1_any b b1 b2 X Y Z x y w h1 hb1 hb2 hp hx hy).mono ?_
  rintro e w' ⟨c, rfl, hl, hE, hP⟩
  exact ⟨c, rfl, hl, hE, X, Y, Z, hP, hk, rfl⟩
set_option maxHeartbeats 1000000 in
set_option maxRecDepth 100000 in
theorem iAddAffine_0 (c o k : Nat) (l : List Int) (p : Pt) (x y : Fp) (w : World) (hc : c < w.heap.size) (hl : Held .u8 w c o l) (hP : Cod l p) (ho : Onc x y) : Calls Try.prog 46 #[.slice (some ⟨c, o, none⟩) l.length k, .agg (bc (x.val : Int)), .agg (bc (y.val : Int)), .int .i64 0] w fun e w' => ∃ g, e = .returned (.tuple #[.slice (some ⟨g, 0, none⟩) (wrL (psum p (.aff x y))).length 65, .bool true]) ∧ g < w'.heap.size ∧ Ext w w' ∧ Held .u8 w' g 0 (wrL (psum p (.aff x y))) := by
  have H := Lib.hid (And.intro hc (And.intro hl (And.intro hP ho)))
  clear hc hl hP ho
  go_enter Try.func46, Try.ntmps46
  go_wp2_with (first | (go_at_call 56; (with_reducible refine (pointPt c o k l p _ (size_al (size_al H.out.1 _) _) ((H.out.2.1.alloc H.out.1 _).alloc (size_al H.out.1 _) _) H.out.2.2.1).mono ?_); rintro e w1 ⟨a, rfl, hg1, hE1, hp1⟩) | (have hx := hE2; (go_at_call 75; (with_reducible refine (element_good y _).mono ?_); rintro e w3 ⟨b3, rfl, hg3, hb3, hE3, hf3, he3⟩)) | (go_at_call 75; (with_reducible refine (element_good x _).mono ?_); rintro e w2 ⟨b2, rfl, hg2, hb2, hE2, hf2, he2⟩) | (go_at_call 76; go_must (refine (AffPt0 a b2 b3 p x y w3 ((hE2.trans hE3).pt hp1) (hE3.lt hb2) hb3 (hE3.elt hb2 he2) he3 H.out.2.2.2).mono ?_); rintro e w4 ⟨d, rfl, hl4, hE4, hp4⟩) | (go_at_call 60; go_must (refine (Bytes65_any d (psum p (.aff x y)) w4 hl4 hp4).mono ?_); rintro e w5 ⟨rfl, hl5, hE5, hh5⟩) | ((refine wpList_load_rowW rfl 31 _ rfl _ rfl _ _ _ _ (by (with_reducible (repeat (first | (refine heap_at _ _ _ ?_; simp only [hsA, setRow_heap]; done) | refine ext_row (Ext.al _ _) ?_ | refine ext_row (by assumption) ?_)))) Try.underlying31 rfl (inB _) ?_)))
  exact bodyPost_ret (v := .tuple #[.slice (some ⟨w4.heap.size, 0, none⟩) (wrL (psum p (.aff x y))).length 65, .bool true]) (by simp [results, Try.results46, go_sem]) rfl ⟨_, rfl, hl5, ((((((Ext.al w _).trans (Ext.al _ _)).trans hE1).trans hE2).trans hE3).trans hE4).trans hE5, hh5⟩
set_option maxHeartbeats 1000000 in
set_option maxRecDepth 100000 in
theorem iAddAffine_1 (c o k : Nat) (l : List Int) (p : Pt) (x y : Fp) (w : World) (hc : c < w.heap.size) (hl : Held .u8 w c o l) (hP : Cod l p)  : Calls Try.prog 46 #[.slice (some ⟨c, o, none⟩) l.length k, .agg (bc (x.val : Int)), .agg (bc (y.val : Int)), .int .i64 1] w fun e w' => ∃ g, e = .returned (.tuple #[.slice (some ⟨g, 0, none⟩) (wrL (p)).length 65, .bool true]) ∧ g < w'.heap.size ∧ Ext w w' ∧ Held .u8 w' g 0 (wrL (p)) := by
  have H := Lib.hid (And.intro hc (And.intro hl (And.intro hP trivial)))
  clear hc hl hP
  go_enter Try.func46, Try.ntmps46
  go_wp2_with (first | (go_at_call 56; (with_reducible refine (pointPt c o k l p _ (size_al (size_al H.out.1 _) _) ((H.out.2.1.alloc H.out.1 _).alloc (size_al H.out.1 _) _) H.out.2.2.1).mono ?_); rintro e w1 ⟨a, rfl, hg1, hE1, hp1⟩) | (have hx := hE2; (go_at_call 75; (with_reducible refine (element_good y _).mono ?_); rintro e w3 ⟨b3, rfl, hg3, hb3, hE3, hf3, he3⟩)) | (go_at_call 75; (with_reducible refine (element_good x _).mono ?_); rintro e w2 ⟨b2, rfl, hg2, hb2, hE2, hf2, he2⟩) | (go_at_call 76; go_must (refine (AffPt1 a b2 b3 p x y w3 ((hE2.trans hE3).pt hp1) (hE3.lt hb2) hb3 (hE3.elt hb2 he2) he3).mono ?_); rintro e w4 ⟨d, rfl, hl4, hE4, hp4⟩) | (go_at_call 60; go_must (refine (Bytes65_any d (p) w4 hl4 hp4).mono ?_); rintro e w5 ⟨rfl, hl5, hE5, hh5⟩) | ((refine wpList_load_rowW rfl 31 _ rfl _ rfl _ _ _ _ (by (with_reducible (repeat (first | (refine heap_at _ _ _ ?_; simp only [hsA, setRow_heap]; done) | refine ext_row (Ext.al _ _) ?_ | refine ext_row (by assumption) ?_)))) Try.underlying31 rfl (inB _) ?_)))
  exact bodyPost_ret (v := .tuple #[.slice (some ⟨w4.heap.size, 0, none⟩) (wrL (p)).length 65, .bool true]) (by simp [results, Try.results46, go_sem]) rfl ⟨_, rfl, hl5, ((((((Ext.al w _).trans (Ext.al _ _)).trans hE1).trans hE2).trans hE3).trans hE4).trans hE5, hh5⟩
end Go.Proofs.Ytmepgkcijeobkaa
