/-
  What is proved here: what the thin package's functions return at bytes that tell points.
  Conditions: those of each theorem.
-/
import Derived.Test.YtmepgkcijeobkaaProg
import Derived.Test.YtmepgkcijeobkaaImpBad
import Derived.Test.YtmepgkcijeobkaaPrj
import Derived.Test.YtmepgkcijeobkaaEleElo
import Derived.Test.YtmepgkcijeobkaaDbl
import Derived.WalkKit
import Derived.WalkSpells
import Derived.Outline
import Derived.Handy
import Derived.ProofKit
import Derived.Deep.QuietTactic
import Derived.BigQuiet
import Derived.Lib.Hide
import Derived.OpenShut
namespace Go.Proofs.Ytmepgkcijeobkaa
open Go Go.RowKit Ecp
set_option linter.unusedSimpArgs false
set_option linter.unusedVariables false

/-- A place of its own that holds the point P. -/
def PtAt (w : World) (b : Nat) (P : Pt) : Prop := b < w.heap.size ∧ Free w b 0 12 ∧ Hp w b 0 P
theorem Ext.pt {u v : World} (h : Ext u v) {b : Nat} {P : Pt} (hp : PtAt u b P) : PtAt v b P := ⟨h.lt hp.1, h.free hp.1 hp.2.1, h.hp hp.1 hp.2.2⟩
theorem PtAt.lt {w : World} {b : Nat} {P : Pt} (h : PtAt w b P) : b < w.heap.size := h.1
theorem PtAt.far {w w' : World} {b b' : Nat} {P Q : Pt} (h : PtAt w b P) (hT : Turned b' 0 12 w w') (hq : PtAt w' b' Q) (hn : b ≠ b') : PtAt w' b P := ⟨hT.lt h.1, h.2.1.hp hT hq.2.2 h.1, h.2.2.far hT h.1 (.inl hn)⟩
theorem NewPt (w : World) : Calls Try.prog 66 #[] w fun e w' => e = .returned (.pointer (some ⟨w.heap.size, 0, none⟩)) ∧ Ext w w' ∧ PtAt w' w.heap.size .far := by
  refine (NewHp w).mono ?_
  rintro e w' ⟨rfl, h1, h2, h3, h4⟩
  exact ⟨rfl, h2, h1, h3, h4⟩
theorem AddPt (b b1 b2 : Nat) (R p q : Pt) (w : World) (hb : PtAt w b R) (h1 : PtAt w b1 p) (h2 : PtAt w b2 q) (a1 : b1 = b ∨ b1 ≠ b) (a2 : b2 = b ∨ b2 ≠ b) : Calls Try.prog 77 #[.pointer (some ⟨b, 0, none⟩), .pointer (some ⟨b1, 0, none⟩), .pointer (some ⟨b2, 0, none⟩)] w fun e w' => e = .returned (.pointer (some ⟨b, 0, none⟩)) ∧ Turned b 0 12 w w' ∧ PtAt w' b (psum p q) := by
  refine (AddHp b 0 b1 0 b2 0 p q w hb.1 h1.1 h2.1 hb.2.1 h1.2.2 h2.2.2 (by rcases a1 with rfl | a; exact apart_self; exact apart_ne a) (by rcases a2 with rfl | a; exact apart_self; exact apart_ne a)).mono ?_
  rintro e w' ⟨rfl, hT, hP, _⟩
  exact ⟨rfl, hT, hT.lt hb.1, hb.2.1.hp hT hP hb.1, hP⟩
theorem DblPt (b b1 : Nat) (R p : Pt) (w : World) (hb : PtAt w b R) (h1 : PtAt w b1 p) (a1 : b1 = b ∨ b1 ≠ b) : Calls Try.prog 72 #[.pointer (some ⟨b, 0, none⟩), .pointer (some ⟨b1, 0, none⟩)] w fun e w' => e = .returned (.pointer (some ⟨b, 0, none⟩)) ∧ Turned b 0 12 w w' ∧ PtAt w' b (psum p p) := by
  refine (DoubleHp b 0 b1 0 p w hb.1 h1.1 hb.2.1 h1.2.2 (by rcases a1 with rfl | a; exact apart_self; exact apart_ne a)).mono ?_
  rintro e w' ⟨rfl, hT, hP, _⟩
  exact ⟨rfl, hT, hT.lt hb.1, hb.2.1.hp hT hP hb.1, hP⟩
theorem SetPt (b b1 : Nat) (R p : Pt) (w : World) (hb : PtAt w b R) (h1 : PtAt w b1 p) (a1 : b1 ≠ b) : Calls Try.prog 74 #[.pointer (some ⟨b, 0, none⟩), .pointer (some ⟨b1, 0, none⟩)] w fun e w' => e = .returned (.pointer (some ⟨b, 0, none⟩)) ∧ Turned b 0 12 w w' ∧ PtAt w' b p := by
  refine (SetHp b 0 b1 0 p w hb.1 h1.1 hb.2.1 h1.2.2 (apart_ne a1)).mono ?_
  rintro e w' ⟨rfl, hT, hP, _⟩
  exact ⟨rfl, hT, hT.lt hb.1, hb.2.1.hp hT hP hb.1, hP⟩
theorem SelPt (b b1 b2 : Nat) (R p q : Pt) (one : Bool) (w : World) (hb : PtAt w b R) (h1 : PtAt w b1 p) (h2 : PtAt w b2 q) (a1 : b1 ≠ b) (a2 : b2 ≠ b) : Calls Try.prog 70 #[.pointer (some ⟨b, 0, none⟩), .pointer (some ⟨b1, 0, none⟩), .pointer (some ⟨b2, 0, none⟩), .int .i64 (if one then 1 else 0)] w fun e w' => e = .returned (.pointer (some ⟨b, 0, none⟩)) ∧ Turned b 0 12 w w' ∧ PtAt w' b (if one then p else q) := by
  refine (SelHp b 0 b1 0 b2 0 p q one w hb.1 h1.1 h2.1 hb.2.1 h1.2.2 h2.2.2 (apart_ne a1) (apart_ne a2)).mono ?_
  rintro e w' ⟨rfl, hT, hP, _⟩
  exact ⟨rfl, hT, hT.lt hb.1, hb.2.1.hp hT hP hb.1, hP⟩
theorem NegPt (b : Nat) (p : Pt) (one : Bool) (w : World) (hb : PtAt w b p) : Calls Try.prog 61 #[.pointer (some ⟨b, 0, none⟩), .int .i64 (if one then 1 else 0)] w fun e w' => e = .returned (.pointer (some ⟨b, 0, none⟩)) ∧ Turned b 0 12 w w' ∧ PtAt w' b (if one then pneg p else p) := by
  refine (NegHp b 0 p one w hb.1 hb.2.1 hb.2.2).mono ?_
  rintro e w' ⟨rfl, hT, hP, _⟩
  exact ⟨rfl, hT, hT.lt hb.1, hb.2.1.hp hT hP hb.1, hP⟩
theorem BytPt (b : Nat) (p : Pt) (w : World) (hb : PtAt w b p) : Calls Try.prog 60 #[.pointer (some ⟨b, 0, none⟩)] w fun e w' => e = .returned (.slice (some ⟨w.heap.size, 0, none⟩) (wrL p).length 65) ∧ w.heap.size < w'.heap.size ∧ Ext w w' ∧ Held .u8 w' w.heap.size 0 (wrL p) := by
  exact Bytes65_any b p w hb.1 hb.2.2
theorem ShoPt (b : Nat) (p : Pt) (w : World) (hb : PtAt w b p) : Calls Try.prog 71 #[.pointer (some ⟨b, 0, none⟩)] w fun e w' => e = .returned (.slice (some ⟨w.heap.size, 0, none⟩) (shL p).length 33) ∧ w.heap.size < w'.heap.size ∧ Ext w w' ∧ Held .u8 w' w.heap.size 0 (shL p) := by
  exact Bytes33_any b p w hb.1 hb.2.2
theorem pointPt (c o k : Nat) (l : List Int) (p : Pt) (w : World) (hc : c < w.heap.size) (hl : Held .u8 w c o l) (hP : Cod l p) : Calls Try.prog 56 #[.slice (some ⟨c, o, none⟩) l.length k] w fun e w' => ∃ q, e = .returned (.tuple #[.pointer (some ⟨q, 0, none⟩), .bool true]) ∧ w.heap.size ≤ q ∧ Ext w w' ∧ PtAt w' q p := by
  refine (point_any c o k l p w hc hl hP).mono ?_
  rintro e w' ⟨q, rfl, h1, h2, h3, h4, h5⟩
  exact ⟨q, rfl, h1, h3, h2, h4, h5⟩
set_option maxHeartbeats 1000000 in
set_option maxRecDepth 100000 in
theorem bothPt (c o k c2 o2 k2 : Nat) (l l2 : List Int) (p q : Pt) (w : World) (hc : c < w.heap.size) (hl : Held .u8 w c o l) (hP : Cod l p) (hc2 : c2 < w.heap.size) (hl2 : Held .u8 w c2 o2 l2) (hQ : Cod l2 q) : Calls Try.prog 69 #[.slice (some ⟨c, o, none⟩) l.length k, .slice (some ⟨c2, o2, none⟩) l2.length k2] w fun e w' => ∃ a b, e = .returned (.tuple #[.pointer (some ⟨a, 0, none⟩), .pointer (some ⟨b, 0, none⟩), .bool true]) ∧ w.heap.size ≤ a ∧ w.heap.size ≤ b ∧ b ≠ a ∧ Ext w w' ∧ PtAt w' a p ∧ PtAt w' b q := by
  have H := Lib.hid (And.intro hc (And.intro hl (And.intro hP (And.intro hc2 (And.intro hl2 hQ)))))
  clear hc hl hP hc2 hl2 hQ
  go_enter Try.func69, Try.ntmps69
  go_wp2_with (first | (go_at_call 56; (with_reducible refine (pointPt c o k l p w H.out.1 H.out.2.1 H.out.2.2.1).mono ?_); rintro e w1 ⟨a, rfl, hg, hE, hp⟩; have H1 := Lib.hid (And.intro hg (And.intro hE hp)); clear hg hE hp) | (go_at_call 56; (with_reducible refine (pointPt c2 o2 k2 l2 q w1 (H1.out.2.1.lt H.out.2.2.2.1) (H1.out.2.1.held H.out.2.2.2.1 H.out.2.2.2.2.1) H.out.2.2.2.2.2).mono ?_); rintro e w2 ⟨b, rfl, hg, hE, hp⟩; have H2 := Lib.hid (And.intro hg (And.intro hE hp)); clear hg hE hp))
  have i1 := H1.out.2.2.1
  have i2 := H2.out.1
  have i3 := H1.out.1
  exact bodyPost_ret (v := .tuple #[.pointer (some ⟨a, 0, none⟩), .pointer (some ⟨b, 0, none⟩), .bool true]) (by simp [results, Try.results69, go_sem]) rfl ⟨a, b, rfl, i3, by omega, by omega, H1.out.2.1.trans H2.out.2.1, H2.out.2.1.pt H1.out.2.2, H2.out.2.2⟩
set_option maxHeartbeats 1000000 in
set_option maxRecDepth 100000 in
theorem iAdd_any (c o k c2 o2 k2 : Nat) (l l2 : List Int) (p q : Pt) (w : World) (hc : c < w.heap.size) (hl : Held .u8 w c o l) (hP : Cod l p) (hc2 : c2 < w.heap.size) (hl2 : Held .u8 w c2 o2 l2) (hQ : Cod l2 q) : Calls Try.prog 47 #[.slice (some ⟨c, o, none⟩) l.length k, .slice (some ⟨c2, o2, none⟩) l2.length k2] w fun e w' => ∃ g, e = .returned (.tuple #[.slice (some ⟨g, 0, none⟩) (wrL (psum p q)).length 65, .bool true]) ∧ g < w'.heap.size ∧ Ext w w' ∧ Held .u8 w' g 0 (wrL (psum p q)) := by
  have H := Lib.hid (And.intro hc (And.intro hl (And.intro hP (And.intro hc2 (And.intro hl2 hQ)))))
  clear hc hl hP hc2 hl2 hQ
  go_enter Try.func47, Try.ntmps47
  go_wp2_with (first | (go_at_call 69; (with_reducible refine (bothPt c o k c2 o2 k2 l l2 p q w H.out.1 H.out.2.1 H.out.2.2.1 H.out.2.2.2.1 H.out.2.2.2.2.1 H.out.2.2.2.2.2).mono ?_); rintro e w1 ⟨a, b, rfl, hg, hg2, hne, hE, hp, hq⟩; have H1 := Lib.hid (And.intro hg (And.intro hg2 (And.intro hne (And.intro hE (And.intro hp hq))))); clear hg hg2 hne hE hp hq) | (go_at_call 66; (with_reducible refine (NewPt w1).mono ?_); rintro e w2 ⟨rfl, hE, hp⟩; have H2 := Lib.hid (And.intro hE hp); clear hE hp) | (go_at_call 77; (with_reducible refine (AddPt w1.heap.size a b .far p q w2 H2.out.2 (H2.out.1.pt H1.out.2.2.2.2.1) (H2.out.1.pt H1.out.2.2.2.2.2) (.inr (Nat.ne_of_lt H1.out.2.2.2.2.1.lt)) (.inr (Nat.ne_of_lt H1.out.2.2.2.2.2.lt))).mono ?_); rintro e w3 ⟨rfl, hT, hp⟩; have H3 := Lib.hid (And.intro hT hp); clear hT hp) | (go_at_call 60; (with_reducible refine (BytPt w1.heap.size (psum p q) w3 H3.out.2).mono ?_); rintro e w4 ⟨rfl, hl, hE, hh⟩; have H4 := Lib.hid (And.intro hl (And.intro hE hh)); clear hl hE hh))
  exact bodyPost_ret (v := .tuple #[.slice (some ⟨w3.heap.size, 0, none⟩) (wrL (psum p q)).length 65, .bool true]) (by simp [results, Try.results47, go_sem]) rfl ⟨_, rfl, H4.out.1, (Turned.ext_of_new (H1.out.2.2.2.1.trans H2.out.1) H3.out.1 (H1.out.2.2.2.1.below.size)).trans H4.out.2.1, H4.out.2.2⟩
set_option maxHeartbeats 1000000 in
set_option maxRecDepth 100000 in
theorem iDouble_any (c o k : Nat) (l : List Int) (p : Pt) (w : World) (hc : c < w.heap.size) (hl : Held .u8 w c o l) (hP : Cod l p) : Calls Try.prog 38 #[.slice (some ⟨c, o, none⟩) l.length k] w fun e w' => ∃ g, e = .returned (.tuple #[.slice (some ⟨g, 0, none⟩) (wrL (psum p p)).length 65, .bool true]) ∧ g < w'.heap.size ∧ Ext w w' ∧ Held .u8 w' g 0 (wrL (psum p p)) := by
  have H := Lib.hid (And.intro hc (And.intro hl hP))
  clear hc hl hP
  go_enter Try.func38, Try.ntmps38
  go_wp2_with (first | (go_at_call 56; (with_reducible refine (pointPt c o k l p w H.out.1 H.out.2.1 H.out.2.2).mono ?_); rintro e w1 ⟨a, rfl, hg, hE, hp⟩; have H1 := Lib.hid (And.intro hg (And.intro hE hp)); clear hg hE hp) | (go_at_call 66; (with_reducible refine (NewPt w1).mono ?_); rintro e w2 ⟨rfl, hE, hp⟩; have H2 := Lib.hid (And.intro hE hp); clear hE hp) | (go_at_call 72; (with_reducible refine (DblPt w1.heap.size a .far p w2 H2.out.2 (H2.out.1.pt H1.out.2.2) (.inr (Nat.ne_of_lt H1.out.2.2.lt))).mono ?_); rintro e w3 ⟨rfl, hT, hp⟩; have H3 := Lib.hid (And.intro hT hp); clear hT hp) | (go_at_call 60; (with_reducible refine (BytPt w1.heap.size (psum p p) w3 H3.out.2).mono ?_); rintro e w4 ⟨rfl, hl, hE, hh⟩; have H4 := Lib.hid (And.intro hl (And.intro hE hh)); clear hl hE hh))
  exact bodyPost_ret (v := .tuple #[.slice (some ⟨w3.heap.size, 0, none⟩) (wrL (psum p p)).length 65, .bool true]) (by simp [results, Try.results38, go_sem]) rfl ⟨_, rfl, H4.out.1, (Turned.ext_of_new (H1.out.2.1.trans H2.out.1) H3.out.1 (H1.out.2.1.below.size)).trans H4.out.2.1, H4.out.2.2⟩
set_option maxHeartbeats 1000000 in
set_option maxRecDepth 100000 in
theorem iInfinity_any (w : World) : Calls Try.prog 51 #[] w fun e w' => ∃ g, e = .returned (.slice (some ⟨g, 0, none⟩) (wrL .far).length 65) ∧ g < w'.heap.size ∧ Ext w w' ∧ Held .u8 w' g 0 (wrL .far) := by
  go_enter Try.func51, Try.ntmps51
  go_wp2_with (first | (go_at_call 66; (with_reducible refine (NewPt w).mono ?_); rintro e w1 ⟨rfl, hE, hp⟩; have H1 := Lib.hid (And.intro hE hp); clear hE hp) | (go_at_call 60; (with_reducible refine (BytPt w.heap.size (.far) w1 H1.out.2).mono ?_); rintro e w2 ⟨rfl, hl, hE, hh⟩; have H2 := Lib.hid (And.intro hl (And.intro hE hh)); clear hl hE hh))
  exact bodyPost_ret (v := .slice (some ⟨w1.heap.size, 0, none⟩) (wrL .far).length 65) (by simp [results, Try.results51, go_sem]) rfl ⟨_, rfl, H2.out.1, H1.out.1.trans H2.out.2.1, H2.out.2.2⟩
end Go.Proofs.Ytmepgkcijeobkaa
