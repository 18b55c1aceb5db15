/-
  What is proved here: what the element's Invert returns.
  Conditions: those of each theorem.
-/
import Derived.Test.YtmepgkcijeobkaaProg
import Derived.Test.YtmepgkcijeobkaaInstP
import Derived.Test.YtmepgkcijeobkaaByuSet
import Derived.WalkKit
import Derived.WalkSpells
import Derived.Outline
import Derived.Handy
import Derived.ProofKit
import Derived.Deep.QuietTactic
import Derived.BigQuiet
import Derived.Lib.Hide
import Derived.OpenShut
namespace Go.Proofs.Ytmepgkcijeobkaa
open Go Go.RowKit Ecp
set_option linter.unusedSimpArgs false
set_option linter.unusedVariables false

/-- Three new elements hold powers of one that is only read (where the exponent is not 0). -/
structure I3 (w wr : World) (c oc n0 n1 n2 : Nat) (x : Fp) (a b d : Nat) : Prop where
  ext : Ext w wr
  hc : c < w.heap.size
  hx : Elt wr c oc x
  g0 : w.heap.size ≤ n0
  l0 : n0 < wr.heap.size
  f0 : Free wr n0 0 4
  e0 : a ≠ 0 → Elt wr n0 0 (fpow x a)
  g1 : w.heap.size ≤ n1
  l1 : n1 < wr.heap.size
  f1 : Free wr n1 0 4
  e1 : b ≠ 0 → Elt wr n1 0 (fpow x b)
  g2 : w.heap.size ≤ n2
  l2 : n2 < wr.heap.size
  f2 : Free wr n2 0 4
  e2 : d ≠ 0 → Elt wr n2 0 (fpow x d)
  n01 : n0 ≠ n1
  n02 : n0 ≠ n2
  n12 : n1 ≠ n2
theorem I3.lc {w wr : World} {c oc n0 n1 n2 : Nat} {x : Fp} {a b d : Nat} (h : I3 w wr c oc n0 n1 n2 x a b d) : c < wr.heap.size := h.ext.lt h.hc
theorem I3.cast {w wr : World} {c oc n0 n1 n2 : Nat} {x : Fp} {a b d : Nat} {a' b' d' : Nat} (h : I3 w wr c oc n0 n1 n2 x a b d) (ha : a = a') (hb : b = b') (hd : d = d') : I3 w wr c oc n0 n1 n2 x a' b' d' := by
  subst ha; subst hb; subst hd; exact h
theorem I3.set0 {w wr : World} {c oc n0 n1 n2 : Nat} {x : Fp} {a b d : Nat} {w' : World} (h : I3 w wr c oc n0 n1 n2 x a b d) (v : Nat) (hT : Turned n0 0 4 wr w') (hE : Elt w' n0 0 (fpow x v)) : I3 w w' c oc n0 n1 n2 x v b d where
  ext := Turned.ext_of_new h.ext hT h.g0
  hc := h.hc
  hx := h.hx.far hT h.lc (.inl (by have := h.hc; have := h.g0; omega))
  g0 := h.g0
  l0 := hT.lt h.l0
  f0 := h.f0.turned hT hE h.l0
  e0 := fun _ => hE
  g1 := h.g1
  l1 := hT.lt h.l1
  f1 := h.f1.far hT h.l1 (.inl h.n01.symm)
  e1 := fun hz => (h.e1 hz).far hT h.l1 (.inl h.n01.symm)
  g2 := h.g2
  l2 := hT.lt h.l2
  f2 := h.f2.far hT h.l2 (.inl h.n02.symm)
  e2 := fun hz => (h.e2 hz).far hT h.l2 (.inl h.n02.symm)
  n01 := h.n01
  n02 := h.n02
  n12 := h.n12
theorem I3.set1 {w wr : World} {c oc n0 n1 n2 : Nat} {x : Fp} {a b d : Nat} {w' : World} (h : I3 w wr c oc n0 n1 n2 x a b d) (v : Nat) (hT : Turned n1 0 4 wr w') (hE : Elt w' n1 0 (fpow x v)) : I3 w w' c oc n0 n1 n2 x a v d where
  ext := Turned.ext_of_new h.ext hT h.g1
  hc := h.hc
  hx := h.hx.far hT h.lc (.inl (by have := h.hc; have := h.g1; omega))
  g0 := h.g0
  l0 := hT.lt h.l0
  f0 := h.f0.far hT h.l0 (.inl h.n01)
  e0 := fun hz => (h.e0 hz).far hT h.l0 (.inl h.n01)
  g1 := h.g1
  l1 := hT.lt h.l1
  f1 := h.f1.turned hT hE h.l1
  e1 := fun _ => hE
  g2 := h.g2
  l2 := hT.lt h.l2
  f2 := h.f2.far hT h.l2 (.inl h.n12.symm)
  e2 := fun hz => (h.e2 hz).far hT h.l2 (.inl h.n12.symm)
  n01 := h.n01
  n02 := h.n02
  n12 := h.n12
theorem I3.set2 {w wr : World} {c oc n0 n1 n2 : Nat} {x : Fp} {a b d : Nat} {w' : World} (h : I3 w wr c oc n0 n1 n2 x a b d) (v : Nat) (hT : Turned n2 0 4 wr w') (hE : Elt w' n2 0 (fpow x v)) : I3 w w' c oc n0 n1 n2 x a b v where
  ext := Turned.ext_of_new h.ext hT h.g2
  hc := h.hc
  hx := h.hx.far hT h.lc (.inl (by have := h.hc; have := h.g2; omega))
  g0 := h.g0
  l0 := hT.lt h.l0
  f0 := h.f0.far hT h.l0 (.inl h.n02)
  e0 := fun hz => (h.e0 hz).far hT h.l0 (.inl h.n02)
  g1 := h.g1
  l1 := hT.lt h.l1
  f1 := h.f1.far hT h.l1 (.inl h.n12)
  e1 := fun hz => (h.e1 hz).far hT h.l1 (.inl h.n12)
  g2 := h.g2
  l2 := hT.lt h.l2
  f2 := h.f2.turned hT hE h.l2
  e2 := fun _ => hE
  n01 := h.n01
  n02 := h.n02
  n12 := h.n12
theorem i3_sq_0_x {w wr : World} {c oc n0 n1 n2 : Nat} {x : Fp} {a b d : Nat} (h : I3 w wr c oc n0 n1 n2 x a b d) : Calls Try.prog 102 #[.pointer (some ⟨n0, 0, none⟩), .pointer (some ⟨c, oc, none⟩)] wr fun e w' => e = .returned (.pointer (some ⟨n0, 0, none⟩)) ∧ I3 w w' c oc n0 n1 n2 x (1 * 2) b d := by
  have hx1 : Elt wr c oc (fpow x 1) := by rw [fpow_one]; exact h.hx
  refine (Elm_Square n0 0 c oc (fpow x (1)) wr h.l0 h.lc h.f0 hx1).mono ?_
  rintro e w' ⟨rfl, hT, hE⟩
  rw [← fpow_two, ← fpow_mul] at hE
  exact ⟨rfl, h.set0 _ hT hE⟩
theorem i3_mul_0_x_0 {w wr : World} {c oc n0 n1 n2 : Nat} {x : Fp} {a b d : Nat} (h : I3 w wr c oc n0 n1 n2 x a b d) (hz0 : a ≠ 0) : Calls Try.prog 103 #[.pointer (some ⟨n0, 0, none⟩), .pointer (some ⟨c, oc, none⟩), .pointer (some ⟨n0, 0, none⟩)] wr fun e w' => e = .returned (.pointer (some ⟨n0, 0, none⟩)) ∧ I3 w w' c oc n0 n1 n2 x (1 + a) b d := by
  have hx1 : Elt wr c oc (fpow x 1) := by rw [fpow_one]; exact h.hx
  refine (Elm_Mul n0 0 c oc n0 0 (fpow x (1)) (fpow x (a)) wr h.l0 h.lc h.l0 h.f0 hx1 (h.e0 hz0)).mono ?_
  rintro e w' ⟨rfl, hT, hE⟩
  rw [← fpow_add] at hE
  exact ⟨rfl, h.set0 _ hT hE⟩
theorem i3_sq_0_0 {w wr : World} {c oc n0 n1 n2 : Nat} {x : Fp} {a b d : Nat} (h : I3 w wr c oc n0 n1 n2 x a b d) (hz0 : a ≠ 0) : Calls Try.prog 102 #[.pointer (some ⟨n0, 0, none⟩), .pointer (some ⟨n0, 0, none⟩)] wr fun e w' => e = .returned (.pointer (some ⟨n0, 0, none⟩)) ∧ I3 w w' c oc n0 n1 n2 x (a * 2) b d := by
  refine (Elm_Square n0 0 n0 0 (fpow x (a)) wr h.l0 h.l0 h.f0 (h.e0 hz0)).mono ?_
  rintro e w' ⟨rfl, hT, hE⟩
  rw [← fpow_two, ← fpow_mul] at hE
  exact ⟨rfl, h.set0 _ hT hE⟩
theorem i3_sq_1_0 {w wr : World} {c oc n0 n1 n2 : Nat} {x : Fp} {a b d : Nat} (h : I3 w wr c oc n0 n1 n2 x a b d) (hz0 : a ≠ 0) : Calls Try.prog 102 #[.pointer (some ⟨n1, 0, none⟩), .pointer (some ⟨n0, 0, none⟩)] wr fun e w' => e = .returned (.pointer (some ⟨n1, 0, none⟩)) ∧ I3 w w' c oc n0 n1 n2 x a (a * 2) d := by
  refine (Elm_Square n1 0 n0 0 (fpow x (a)) wr h.l1 h.l0 h.f1 (h.e0 hz0)).mono ?_
  rintro e w' ⟨rfl, hT, hE⟩
  rw [← fpow_two, ← fpow_mul] at hE
  exact ⟨rfl, h.set1 _ hT hE⟩
theorem i3_sq_1_1 {w wr : World} {c oc n0 n1 n2 : Nat} {x : Fp} {a b d : Nat} (h : I3 w wr c oc n0 n1 n2 x a b d) (hz1 : b ≠ 0) : Calls Try.prog 102 #[.pointer (some ⟨n1, 0, none⟩), .pointer (some ⟨n1, 0, none⟩)] wr fun e w' => e = .returned (.pointer (some ⟨n1, 0, none⟩)) ∧ I3 w w' c oc n0 n1 n2 x a (b * 2) d := by
  refine (Elm_Square n1 0 n1 0 (fpow x (b)) wr h.l1 h.l1 h.f1 (h.e1 hz1)).mono ?_
  rintro e w' ⟨rfl, hT, hE⟩
  rw [← fpow_two, ← fpow_mul] at hE
  exact ⟨rfl, h.set1 _ hT hE⟩
theorem i3_mul_1_0_1 {w wr : World} {c oc n0 n1 n2 : Nat} {x : Fp} {a b d : Nat} (h : I3 w wr c oc n0 n1 n2 x a b d) (hz0 : a ≠ 0) (hz1 : b ≠ 0) : Calls Try.prog 103 #[.pointer (some ⟨n1, 0, none⟩), .pointer (some ⟨n0, 0, none⟩), .pointer (some ⟨n1, 0, none⟩)] wr fun e w' => e = .returned (.pointer (some ⟨n1, 0, none⟩)) ∧ I3 w w' c oc n0 n1 n2 x a (a + b) d := by
  refine (Elm_Mul n1 0 n0 0 n1 0 (fpow x (a)) (fpow x (b)) wr h.l1 h.l0 h.l1 h.f1 (h.e0 hz0) (h.e1 hz1)).mono ?_
  rintro e w' ⟨rfl, hT, hE⟩
  rw [← fpow_add] at hE
  exact ⟨rfl, h.set1 _ hT hE⟩
theorem i3_sq_2_1 {w wr : World} {c oc n0 n1 n2 : Nat} {x : Fp} {a b d : Nat} (h : I3 w wr c oc n0 n1 n2 x a b d) (hz1 : b ≠ 0) : Calls Try.prog 102 #[.pointer (some ⟨n2, 0, none⟩), .pointer (some ⟨n1, 0, none⟩)] wr fun e w' => e = .returned (.pointer (some ⟨n2, 0, none⟩)) ∧ I3 w w' c oc n0 n1 n2 x a b (b * 2) := by
  refine (Elm_Square n2 0 n1 0 (fpow x (b)) wr h.l2 h.l1 h.f2 (h.e1 hz1)).mono ?_
  rintro e w' ⟨rfl, hT, hE⟩
  rw [← fpow_two, ← fpow_mul] at hE
  exact ⟨rfl, h.set2 _ hT hE⟩
theorem i3_sq_2_2 {w wr : World} {c oc n0 n1 n2 : Nat} {x : Fp} {a b d : Nat} (h : I3 w wr c oc n0 n1 n2 x a b d) (hz2 : d ≠ 0) : Calls Try.prog 102 #[.pointer (some ⟨n2, 0, none⟩), .pointer (some ⟨n2, 0, none⟩)] wr fun e w' => e = .returned (.pointer (some ⟨n2, 0, none⟩)) ∧ I3 w w' c oc n0 n1 n2 x a b (d * 2) := by
  refine (Elm_Square n2 0 n2 0 (fpow x (d)) wr h.l2 h.l2 h.f2 (h.e2 hz2)).mono ?_
  rintro e w' ⟨rfl, hT, hE⟩
  rw [← fpow_two, ← fpow_mul] at hE
  exact ⟨rfl, h.set2 _ hT hE⟩
theorem i3_mul_1_1_2 {w wr : World} {c oc n0 n1 n2 : Nat} {x : Fp} {a b d : Nat} (h : I3 w wr c oc n0 n1 n2 x a b d) (hz1 : b ≠ 0) (hz2 : d ≠ 0) : Calls Try.prog 103 #[.pointer (some ⟨n1, 0, none⟩), .pointer (some ⟨n1, 0, none⟩), .pointer (some ⟨n2, 0, none⟩)] wr fun e w' => e = .returned (.pointer (some ⟨n1, 0, none⟩)) ∧ I3 w w' c oc n0 n1 n2 x a (b + d) d := by
  refine (Elm_Mul n1 0 n1 0 n2 0 (fpow x (b)) (fpow x (d)) wr h.l1 h.l1 h.l2 h.f1 (h.e1 hz1) (h.e2 hz2)).mono ?_
  rintro e w' ⟨rfl, hT, hE⟩
  rw [← fpow_add] at hE
  exact ⟨rfl, h.set1 _ hT hE⟩
theorem i3_mul_0_0_1 {w wr : World} {c oc n0 n1 n2 : Nat} {x : Fp} {a b d : Nat} (h : I3 w wr c oc n0 n1 n2 x a b d) (hz0 : a ≠ 0) (hz1 : b ≠ 0) : Calls Try.prog 103 #[.pointer (some ⟨n0, 0, none⟩), .pointer (some ⟨n0, 0, none⟩), .pointer (some ⟨n1, 0, none⟩)] wr fun e w' => e = .returned (.pointer (some ⟨n0, 0, none⟩)) ∧ I3 w w' c oc n0 n1 n2 x (a + b) b d := by
  refine (Elm_Mul n0 0 n0 0 n1 0 (fpow x (a)) (fpow x (b)) wr h.l0 h.l0 h.l1 h.f0 (h.e0 hz0) (h.e1 hz1)).mono ?_
  rintro e w' ⟨rfl, hT, hE⟩
  rw [← fpow_add] at hE
  exact ⟨rfl, h.set0 _ hT hE⟩
theorem i3_mul_1_x_1 {w wr : World} {c oc n0 n1 n2 : Nat} {x : Fp} {a b d : Nat} (h : I3 w wr c oc n0 n1 n2 x a b d) (hz1 : b ≠ 0) : Calls Try.prog 103 #[.pointer (some ⟨n1, 0, none⟩), .pointer (some ⟨c, oc, none⟩), .pointer (some ⟨n1, 0, none⟩)] wr fun e w' => e = .returned (.pointer (some ⟨n1, 0, none⟩)) ∧ I3 w w' c oc n0 n1 n2 x a (1 + b) d := by
  have hx1 : Elt wr c oc (fpow x 1) := by rw [fpow_one]; exact h.hx
  refine (Elm_Mul n1 0 c oc n1 0 (fpow x (1)) (fpow x (b)) wr h.l1 h.lc h.l1 h.f1 hx1 (h.e1 hz1)).mono ?_
  rintro e w' ⟨rfl, hT, hE⟩
  rw [← fpow_add] at hE
  exact ⟨rfl, h.set1 _ hT hE⟩
set_option maxHeartbeats 16000000 in
set_option maxRecDepth 100000 in
theorem Invert_any' (b ob c oc : Nat) (x v : Fp) (w : World) (hb : b < w.heap.size) (hc : c < w.heap.size) (hf : Free w b ob 4) (he : Elt w b ob v) (hx : Elt w c oc x) :
    Calls Try.prog 109 #[.pointer (some ⟨b, ob, none⟩), .pointer (some ⟨c, oc, none⟩)] w fun e w' => e = .returned (.pointer (some ⟨b, ob, none⟩)) ∧ Turned b ob 4 w w' ∧ Elt w' b ob (finv x) := by
  have H := Lib.hid (And.intro hb (And.intro hf (And.intro hc (And.intro he hx))))
  clear hb hf hc he hx
  go_enter Try.func109, Try.ntmps109
  go_wp2_with (first | (go_at_call 85; go_must (refine (Elm_Set w.heap.size 0 b ob v (w.alloc (.cells #[.int .u64 0, .int .u64 0, .int .u64 0, .int .u64 0] 111)) (by simp [size_alloc]) (size_al H.out.1 _) (Free.newWords (cs := #[.int .u64 0, .int .u64 0, .int .u64 0, .int .u64 0]) rfl rfl) (H.out.2.2.2.1.alloc H.out.1 _)).mono ?_); rintro e w1 ⟨rfl, hT, hE⟩; have hf1 : Free w1 w.heap.size 0 4 := Free.turned (Free.newWords (cs := #[.int .u64 0, .int .u64 0, .int .u64 0, .int .u64 0]) rfl rfl) hT hE (by simp [size_alloc]); have hl1 : w.heap.size < w1.heap.size := hT.lt (by simp [size_alloc]); have hE1 : Ext w w1 := Turned.ext_of_new (Ext.al _ _) hT (Nat.le_refl _); have hEE : Ext w ((w1.alloc (.cells #[.int .u64 0, .int .u64 0, .int .u64 0, .int .u64 0] 111)).alloc (.cells #[.int .u64 0, .int .u64 0, .int .u64 0, .int .u64 0] 111)) := hE1.trans ((Ext.al _ _).trans (Ext.al _ _)); have hS0 : I3 w ((w1.alloc (.cells #[.int .u64 0, .int .u64 0, .int .u64 0, .int .u64 0] 111)).alloc (.cells #[.int .u64 0, .int .u64 0, .int .u64 0, .int .u64 0] 111)) c oc w.heap.size w1.heap.size (w1.heap.size + 1) x 0 0 0 := ⟨hEE, H.out.2.2.1, hEE.elt H.out.2.2.1 H.out.2.2.2.2, Nat.le_refl _, size_al (size_al hl1 _) _, Free.alloc (Free.alloc hf1 hl1 _) (size_al hl1 _) _, fun h => absurd rfl h, Nat.le_of_lt hl1, (by simp [size_alloc] <;> omega), Free.alloc (Free.newWords rfl rfl) (by simp [size_alloc]) _, fun h => absurd rfl h, Nat.le_succ_of_le (Nat.le_of_lt hl1), (by simp [size_alloc] <;> omega), Free.newWords (by simp [size_alloc]) rfl, fun h => absurd rfl h, Nat.ne_of_lt hl1, (by omega), (by omega)⟩; have HS := Lib.hid hS0; clear hT hE hf1 hl1 hE1 hEE hS0) | (go_at_call 102; (with_reducible refine (i3_sq_0_x HS.out).mono ?_); rintro e w' ⟨rfl, hS⟩; replace HS := Lib.hid (show I3 w w' c oc w.heap.size w1.heap.size (w1.heap.size + 1) x 2 0 0 from hS.cast (by decide +kernel) (by decide +kernel) (by decide +kernel)); clear hS) | (go_at_call 103; (with_reducible refine (i3_mul_0_x_0 HS.out (by decide)).mono ?_); rintro e w' ⟨rfl, hS⟩; replace HS := Lib.hid (show I3 w w' c oc w.heap.size w1.heap.size (w1.heap.size + 1) x 3 0 0 from hS.cast (by decide +kernel) (by decide +kernel) (by decide +kernel)); clear hS) | (go_at_call 102; (with_reducible refine (i3_sq_0_0 HS.out (by decide)).mono ?_); rintro e w' ⟨rfl, hS⟩; replace HS := Lib.hid (show I3 w w' c oc w.heap.size w1.heap.size (w1.heap.size + 1) x 6 0 0 from hS.cast (by decide +kernel) (by decide +kernel) (by decide +kernel)); clear hS) | (go_at_call 103; (with_reducible refine (i3_mul_0_x_0 HS.out (by decide)).mono ?_); rintro e w' ⟨rfl, hS⟩; replace HS := Lib.hid (show I3 w w' c oc w.heap.size w1.heap.size (w1.heap.size + 1) x 7 0 0 from hS.cast (by decide +kernel) (by decide +kernel) (by decide +kernel)); clear hS) | (go_at_call 102; (with_reducible refine (i3_sq_1_0 HS.out (by decide)).mono ?_); rintro e w' ⟨rfl, hS⟩; replace HS := Lib.hid (show I3 w w' c oc w.heap.size w1.heap.size (w1.heap.size + 1) x 7 14 0 from hS.cast (by decide +kernel) (by decide +kernel) (by decide +kernel)); clear hS))
  go_loopw [8] (fun i wr => ∃ j : Nat, 1 ≤ j ∧ j ≤ 3 ∧ i = .int .i64 j ∧ Hid (I3 w wr c oc w.heap.size w1.heap.size (w1.heap.size + 1) x 7 (14 * 2 ^ (j - 1)) 0)) (fun i _ => 3 - (intOf i).toNat)
  case atStart => exact ⟨1, by decide, by decide, rfl, HS⟩
  case round =>
    obtain ⟨j, hj0, hj, rfl, HR⟩ := hrel
    by_cases hlt : j < 3
    · have c1 : (j : Int) < 3 := by omega
      go_wp2_with (go_at_call 102; go_must (refine (i3_sq_1_1 HR.out (Nat.mul_ne_zero (by decide) (Nat.ne_of_gt (Nat.two_pow_pos _)))).mono ?_); rintro e w2 ⟨rfl, hS⟩; have HS3 := Lib.hid hS; clear hS)
      have H2 := Lib.hid (show I3 w w2 c oc w.heap.size w1.heap.size (w1.heap.size + 1) x 7 (14 * 2 ^ (j + 1 - 1)) 0 from HS3.out.cast rfl (by rw [Nat.mul_assoc, ← Nat.pow_succ, show (j - 1).succ = j + 1 - 1 by omega]) rfl)
      exact ⟨⟨j + 1, by omega, by omega, by go_num, H2⟩, by (simp [intOf]; omega)⟩
    · obtain rfl : j = 3 := by omega
      replace HS := Lib.hid (show I3 w wr c oc w.heap.size w1.heap.size (w1.heap.size + 1) x 7 56 0 from HR.out.cast (by decide +kernel) (by decide +kernel) (by decide +kernel))
      clear HR
      go_wp2_with (first | (go_at_call 103; (with_reducible refine (i3_mul_1_0_1 HS.out (by decide) (by decide)).mono ?_); rintro e w' ⟨rfl, hS⟩; replace HS := Lib.hid (show I3 w w' c oc w.heap.size w1.heap.size (w1.heap.size + 1) x 7 63 0 from hS.cast (by decide +kernel) (by decide +kernel) (by decide +kernel)); clear hS) | (go_at_call 102; (with_reducible refine (i3_sq_2_1 HS.out (by decide)).mono ?_); rintro e w' ⟨rfl, hS⟩; replace HS := Lib.hid (show I3 w w' c oc w.heap.size w1.heap.size (w1.heap.size + 1) x 7 63 126 from hS.cast (by decide +kernel) (by decide +kernel) (by decide +kernel)); clear hS))
      go_loopw [9] (fun i wr => ∃ j : Nat, 1 ≤ j ∧ j ≤ 6 ∧ i = .int .i64 j ∧ Hid (I3 w wr c oc w.heap.size w1.heap.size (w1.heap.size + 1) x 7 63 (126 * 2 ^ (j - 1)))) (fun i _ => 6 - (intOf i).toNat)
      case atStart => exact ⟨1, by decide, by decide, rfl, HS⟩
      case round =>
        obtain ⟨j, hj0, hj, rfl, HR⟩ := hrel
        by_cases hlt : j < 6
        · have c1 : (j : Int) < 6 := by omega
          go_wp2_with (go_at_call 102; go_must (refine (i3_sq_2_2 HR.out (Nat.mul_ne_zero (by decide) (Nat.ne_of_gt (Nat.two_pow_pos _)))).mono ?_); rintro e w2 ⟨rfl, hS⟩; have HS3 := Lib.hid hS; clear hS)
          have H2 := Lib.hid (show I3 w w2 c oc w.heap.size w1.heap.size (w1.heap.size + 1) x 7 63 (126 * 2 ^ (j + 1 - 1)) from HS3.out.cast rfl rfl (by rw [Nat.mul_assoc, ← Nat.pow_succ, show (j - 1).succ = j + 1 - 1 by omega]))
          exact ⟨⟨j + 1, by omega, by omega, by go_num, H2⟩, by (simp [intOf]; omega)⟩
        · obtain rfl : j = 6 := by omega
          replace HS := Lib.hid (show I3 w wr c oc w.heap.size w1.heap.size (w1.heap.size + 1) x 7 63 4032 from HR.out.cast (by decide +kernel) (by decide +kernel) (by decide +kernel))
          clear HR
          go_wp2_with ((go_at_call 103; (with_reducible refine (i3_mul_1_1_2 HS.out (by decide) (by decide)).mono ?_); rintro e w' ⟨rfl, hS⟩; replace HS := Lib.hid (show I3 w w' c oc w.heap.size w1.heap.size (w1.heap.size + 1) x 7 4095 4032 from hS.cast (by decide +kernel) (by decide +kernel) (by decide +kernel)); clear hS))
          go_loopw [10] (fun i wr => ∃ j : Nat, 0 ≤ j ∧ j ≤ 3 ∧ i = .int .i64 j ∧ Hid (I3 w wr c oc w.heap.size w1.heap.size (w1.heap.size + 1) x 7 (4095 * 2 ^ (j - 0)) 4032)) (fun i _ => 3 - (intOf i).toNat)
          case atStart => exact ⟨0, by decide, by decide, rfl, HS⟩
          case round =>
            obtain ⟨j, hj0, hj, rfl, HR⟩ := hrel
            by_cases hlt : j < 3
            · have c1 : (j : Int) < 3 := by omega
              go_wp2_with (go_at_call 102; go_must (refine (i3_sq_1_1 HR.out (Nat.mul_ne_zero (by decide) (Nat.ne_of_gt (Nat.two_pow_pos _)))).mono ?_); rintro e w2 ⟨rfl, hS⟩; have HS3 := Lib.hid hS; clear hS)
              have H2 := Lib.hid (show I3 w w2 c oc w.heap.size w1.heap.size (w1.heap.size + 1) x 7 (4095 * 2 ^ (j + 1 - 0)) 4032 from HS3.out.cast rfl (by rw [Nat.mul_assoc, ← Nat.pow_succ, show (j - 0).succ = j + 1 - 0 by omega]) rfl)
              exact ⟨⟨j + 1, by omega, by omega, by go_num, H2⟩, by (simp [intOf]; omega)⟩
            · obtain rfl : j = 3 := by omega
              replace HS := Lib.hid (show I3 w wr c oc w.heap.size w1.heap.size (w1.heap.size + 1) x 7 32760 4032 from HR.out.cast (by decide +kernel) (by decide +kernel) (by decide +kernel))
              clear HR
              go_wp2_with (first | (go_at_call 103; (with_reducible refine (i3_mul_0_0_1 HS.out (by decide) (by decide)).mono ?_); rintro e w' ⟨rfl, hS⟩; replace HS := Lib.hid (show I3 w w' c oc w.heap.size w1.heap.size (w1.heap.size + 1) x 32767 32760 4032 from hS.cast (by decide +kernel) (by decide +kernel) (by decide +kernel)); clear hS) | (go_at_call 102; (with_reducible refine (i3_sq_1_0 HS.out (by decide)).mono ?_); rintro e w' ⟨rfl, hS⟩; replace HS := Lib.hid (show I3 w w' c oc w.heap.size w1.heap.size (w1.heap.size + 1) x 32767 65534 4032 from hS.cast (by decide +kernel) (by decide +kernel) (by decide +kernel)); clear hS) | (go_at_call 103; (with_reducible refine (i3_mul_1_x_1 HS.out (by decide)).mono ?_); rintro e w' ⟨rfl, hS⟩; replace HS := Lib.hid (show I3 w w' c oc w.heap.size w1.heap.size (w1.heap.size + 1) x 32767 65535 4032 from hS.cast (by decide +kernel) (by decide +kernel) (by decide +kernel)); clear hS) | (go_at_call 102; (with_reducible refine (i3_sq_2_1 HS.out (by decide)).mono ?_); rintro e w' ⟨rfl, hS⟩; replace HS := Lib.hid (show I3 w w' c oc w.heap.size w1.heap.size (w1.heap.size + 1) x 32767 65535 131070 from hS.cast (by decide +kernel) (by decide +kernel) (by decide +kernel)); clear hS))
              go_loopw [11] (fun i wr => ∃ j : Nat, 1 ≤ j ∧ j ≤ 16 ∧ i = .int .i64 j ∧ Hid (I3 w wr c oc w.heap.size w1.heap.size (w1.heap.size + 1) x 32767 65535 (131070 * 2 ^ (j - 1)))) (fun i _ => 16 - (intOf i).toNat)
              case atStart => exact ⟨1, by decide, by decide, rfl, HS⟩
              case round =>
                obtain ⟨j, hj0, hj, rfl, HR⟩ := hrel
                by_cases hlt : j < 16
                · have c1 : (j : Int) < 16 := by omega
                  go_wp2_with (go_at_call 102; go_must (refine (i3_sq_2_2 HR.out (Nat.mul_ne_zero (by decide) (Nat.ne_of_gt (Nat.two_pow_pos _)))).mono ?_); rintro e w2 ⟨rfl, hS⟩; have HS3 := Lib.hid hS; clear hS)
                  have H2 := Lib.hid (show I3 w w2 c oc w.heap.size w1.heap.size (w1.heap.size + 1) x 32767 65535 (131070 * 2 ^ (j + 1 - 1)) from HS3.out.cast rfl rfl (by rw [Nat.mul_assoc, ← Nat.pow_succ, show (j - 1).succ = j + 1 - 1 by omega]))
                  exact ⟨⟨j + 1, by omega, by omega, by go_num, H2⟩, by (simp [intOf]; omega)⟩
                · obtain rfl : j = 16 := by omega
                  replace HS := Lib.hid (show I3 w wr c oc w.heap.size w1.heap.size (w1.heap.size + 1) x 32767 65535 4294901760 from HR.out.cast (by decide +kernel) (by decide +kernel) (by decide +kernel))
                  clear HR
                  go_wp2_with ((go_at_call 103; (with_reducible refine (i3_mul_1_1_2 HS.out (by decide) (by decide)).mono ?_); rintro e w' ⟨rfl, hS⟩; replace HS := Lib.hid (show I3 w w' c oc w.heap.size w1.heap.size (w1.heap.size + 1) x 32767 4294967295 4294901760 from hS.cast (by decide +kernel) (by decide +kernel) (by decide +kernel)); clear hS))
                  go_loopw [12] (fun i wr => ∃ j : Nat, 0 ≤ j ∧ j ≤ 15 ∧ i = .int .i64 j ∧ Hid (I3 w wr c oc w.heap.size w1.heap.size (w1.heap.size + 1) x 32767 (4294967295 * 2 ^ (j - 0)) 4294901760)) (fun i _ => 15 - (intOf i).toNat)
                  case atStart => exact ⟨0, by decide, by decide, rfl, HS⟩
                  case round =>
                    obtain ⟨j, hj0, hj, rfl, HR⟩ := hrel
                    by_cases hlt : j < 15
                    · have c1 : (j : Int) < 15 := by omega
                      go_wp2_with (go_at_call 102; go_must (refine (i3_sq_1_1 HR.out (Nat.mul_ne_zero (by decide) (Nat.ne_of_gt (Nat.two_pow_pos _)))).mono ?_); rintro e w2 ⟨rfl, hS⟩; have HS3 := Lib.hid hS; clear hS)
                      have H2 := Lib.hid (show I3 w w2 c oc w.heap.size w1.heap.size (w1.heap.size + 1) x 32767 (4294967295 * 2 ^ (j + 1 - 0)) 4294901760 from HS3.out.cast rfl (by rw [Nat.mul_assoc, ← Nat.pow_succ, show (j - 0).succ = j + 1 - 0 by omega]) rfl)
                      exact ⟨⟨j + 1, by omega, by omega, by go_num, H2⟩, by (simp [intOf]; omega)⟩
                    · obtain rfl : j = 15 := by omega
                      replace HS := Lib.hid (show I3 w wr c oc w.heap.size w1.heap.size (w1.heap.size + 1) x 32767 140737488322560 4294901760 from HR.out.cast (by decide +kernel) (by decide +kernel) (by decide +kernel))
                      clear HR
                      go_wp2_with ((go_at_call 103; (with_reducible refine (i3_mul_0_0_1 HS.out (by decide) (by decide)).mono ?_); rintro e w' ⟨rfl, hS⟩; replace HS := Lib.hid (show I3 w w' c oc w.heap.size w1.heap.size (w1.heap.size + 1) x 140737488355327 140737488322560 4294901760 from hS.cast (by decide +kernel) (by decide +kernel) (by decide +kernel)); clear hS))
                      go_loopw [13] (fun i wr => ∃ j : Nat, 0 ≤ j ∧ j ≤ 17 ∧ i = .int .i64 j ∧ Hid (I3 w wr c oc w.heap.size w1.heap.size (w1.heap.size + 1) x 140737488355327 (140737488322560 * 2 ^ (j - 0)) 4294901760)) (fun i _ => 17 - (intOf i).toNat)
                      case atStart => exact ⟨0, by decide, by decide, rfl, HS⟩
                      case round =>
                        obtain ⟨j, hj0, hj, rfl, HR⟩ := hrel
                        by_cases hlt : j < 17
                        · have c1 : (j : Int) < 17 := by omega
                          go_wp2_with (go_at_call 102; go_must (refine (i3_sq_1_1 HR.out (Nat.mul_ne_zero (by decide) (Nat.ne_of_gt (Nat.two_pow_pos _)))).mono ?_); rintro e w2 ⟨rfl, hS⟩; have HS3 := Lib.hid hS; clear hS)
                          have H2 := Lib.hid (show I3 w w2 c oc w.heap.size w1.heap.size (w1.heap.size + 1) x 140737488355327 (140737488322560 * 2 ^ (j + 1 - 0)) 4294901760 from HS3.out.cast rfl (by rw [Nat.mul_assoc, ← Nat.pow_succ, show (j - 0).succ = j + 1 - 0 by omega]) rfl)
                          exact ⟨⟨j + 1, by omega, by omega, by go_num, H2⟩, by (simp [intOf]; omega)⟩
                        · obtain rfl : j = 17 := by omega
                          replace HS := Lib.hid (show I3 w wr c oc w.heap.size w1.heap.size (w1.heap.size + 1) x 140737488355327 18446744069414584320 4294901760 from HR.out.cast (by decide +kernel) (by decide +kernel) (by decide +kernel))
                          clear HR
                          go_wp2_with ((go_at_call 103; (with_reducible refine (i3_mul_1_x_1 HS.out (by decide)).mono ?_); rintro e w' ⟨rfl, hS⟩; replace HS := Lib.hid (show I3 w w' c oc w.heap.size w1.heap.size (w1.heap.size + 1) x 140737488355327 18446744069414584321 4294901760 from hS.cast (by decide +kernel) (by decide +kernel) (by decide +kernel)); clear hS))
                          go_loopw [14] (fun i wr => ∃ j : Nat, 0 ≤ j ∧ j ≤ 143 ∧ i = .int .i64 j ∧ Hid (I3 w wr c oc w.heap.size w1.heap.size (w1.heap.size + 1) x 140737488355327 (18446744069414584321 * 2 ^ (j - 0)) 4294901760)) (fun i _ => 143 - (intOf i).toNat)
                          case atStart => exact ⟨0, by decide, by decide, rfl, HS⟩
                          case round =>
                            obtain ⟨j, hj0, hj, rfl, HR⟩ := hrel
                            by_cases hlt : j < 143
                            · have c1 : (j : Int) < 143 := by omega
                              go_wp2_with (go_at_call 102; go_must (refine (i3_sq_1_1 HR.out (Nat.mul_ne_zero (by decide) (Nat.ne_of_gt (Nat.two_pow_pos _)))).mono ?_); rintro e w2 ⟨rfl, hS⟩; have HS3 := Lib.hid hS; clear hS)
                              have H2 := Lib.hid (show I3 w w2 c oc w.heap.size w1.heap.size (w1.heap.size + 1) x 140737488355327 (18446744069414584321 * 2 ^ (j + 1 - 0)) 4294901760 from HS3.out.cast rfl (by rw [Nat.mul_assoc, ← Nat.pow_succ, show (j - 0).succ = j + 1 - 0 by omega]) rfl)
                              exact ⟨⟨j + 1, by omega, by omega, by go_num, H2⟩, by (simp [intOf]; omega)⟩
                            · obtain rfl : j = 143 := by omega
                              replace HS := Lib.hid (show I3 w wr c oc w.heap.size w1.heap.size (w1.heap.size + 1) x 140737488355327 205688069617260269628462493595235780095162680352436066103328768 4294901760 from HR.out.cast (by decide +kernel) (by decide +kernel) (by decide +kernel))
                              clear HR
                              go_wp2_with ((go_at_call 103; (with_reducible refine (i3_mul_1_0_1 HS.out (by decide) (by decide)).mono ?_); rintro e w' ⟨rfl, hS⟩; replace HS := Lib.hid (show I3 w w' c oc w.heap.size w1.heap.size (w1.heap.size + 1) x 140737488355327 205688069617260269628462493595235780095162680352576803591684095 4294901760 from hS.cast (by decide +kernel) (by decide +kernel) (by decide +kernel)); clear hS))
                              go_loopw [15] (fun i wr => ∃ j : Nat, 0 ≤ j ∧ j ≤ 47 ∧ i = .int .i64 j ∧ Hid (I3 w wr c oc w.heap.size w1.heap.size (w1.heap.size + 1) x 140737488355327 (205688069617260269628462493595235780095162680352576803591684095 * 2 ^ (j - 0)) 4294901760)) (fun i _ => 47 - (intOf i).toNat)
                              case atStart => exact ⟨0, by decide, by decide, rfl, HS⟩
                              case round =>
                                obtain ⟨j, hj0, hj, rfl, HR⟩ := hrel
                                by_cases hlt : j < 47
                                · have c1 : (j : Int) < 47 := by omega
                                  go_wp2_with (go_at_call 102; go_must (refine (i3_sq_1_1 HR.out (Nat.mul_ne_zero (by decide) (Nat.ne_of_gt (Nat.two_pow_pos _)))).mono ?_); rintro e w2 ⟨rfl, hS⟩; have HS3 := Lib.hid hS; clear hS)
                                  have H2 := Lib.hid (show I3 w w2 c oc w.heap.size w1.heap.size (w1.heap.size + 1) x 140737488355327 (205688069617260269628462493595235780095162680352576803591684095 * 2 ^ (j + 1 - 0)) 4294901760 from HS3.out.cast rfl (by rw [Nat.mul_assoc, ← Nat.pow_succ, show (j - 0).succ = j + 1 - 0 by omega]) rfl)
                                  exact ⟨⟨j + 1, by omega, by omega, by go_num, H2⟩, by (simp [intOf]; omega)⟩
                                · obtain rfl : j = 47 := by omega
                                  replace HS := Lib.hid (show I3 w wr c oc w.heap.size w1.heap.size (w1.heap.size + 1) x 140737488355327 28948022302589062190674361737351893382521535853822578548883407686479286108160 4294901760 from HR.out.cast (by decide +kernel) (by decide +kernel) (by decide +kernel))
                                  clear HR
                                  go_wp2_with ((go_at_call 103; (with_reducible refine (i3_mul_0_0_1 HS.out (by decide) (by decide)).mono ?_); rintro e w' ⟨rfl, hS⟩; replace HS := Lib.hid (show I3 w w' c oc w.heap.size w1.heap.size (w1.heap.size + 1) x 28948022302589062190674361737351893382521535853822578548883407827216774463487 28948022302589062190674361737351893382521535853822578548883407686479286108160 4294901760 from hS.cast (by decide +kernel) (by decide +kernel) (by decide +kernel)); clear hS))
                                  go_loopw [16] (fun i wr => ∃ j : Nat, 0 ≤ j ∧ j ≤ 2 ∧ i = .int .i64 j ∧ Hid (I3 w wr c oc w.heap.size w1.heap.size (w1.heap.size + 1) x (28948022302589062190674361737351893382521535853822578548883407827216774463487 * 2 ^ (j - 0)) 28948022302589062190674361737351893382521535853822578548883407686479286108160 4294901760)) (fun i _ => 2 - (intOf i).toNat)
                                  case atStart => exact ⟨0, by decide, by decide, rfl, HS⟩
                                  case round =>
                                    obtain ⟨j, hj0, hj, rfl, HR⟩ := hrel
                                    by_cases hlt : j < 2
                                    · have c1 : (j : Int) < 2 := by omega
                                      go_wp2_with (go_at_call 102; go_must (refine (i3_sq_0_0 HR.out (Nat.mul_ne_zero (by decide) (Nat.ne_of_gt (Nat.two_pow_pos _)))).mono ?_); rintro e w2 ⟨rfl, hS⟩; have HS3 := Lib.hid hS; clear hS)
                                      have H2 := Lib.hid (show I3 w w2 c oc w.heap.size w1.heap.size (w1.heap.size + 1) x (28948022302589062190674361737351893382521535853822578548883407827216774463487 * 2 ^ (j + 1 - 0)) 28948022302589062190674361737351893382521535853822578548883407686479286108160 4294901760 from HS3.out.cast (by rw [Nat.mul_assoc, ← Nat.pow_succ, show (j - 0).succ = j + 1 - 0 by omega]) rfl rfl)
                                      exact ⟨⟨j + 1, by omega, by omega, by go_num, H2⟩, by (simp [intOf]; omega)⟩
                                    · obtain rfl : j = 2 := by omega
                                      replace HS := Lib.hid (show I3 w wr c oc w.heap.size w1.heap.size (w1.heap.size + 1) x 115792089210356248762697446949407573530086143415290314195533631308867097853948 28948022302589062190674361737351893382521535853822578548883407686479286108160 4294901760 from HR.out.cast (by decide +kernel) (by decide +kernel) (by decide +kernel))
                                      clear HR
                                      go_wp2_with (first | (go_at_call 103; (with_reducible refine (i3_mul_0_x_0 HS.out (by decide)).mono ?_); rintro e w' ⟨rfl, hS⟩; replace HS := Lib.hid (show I3 w w' c oc w.heap.size w1.heap.size (w1.heap.size + 1) x 115792089210356248762697446949407573530086143415290314195533631308867097853949 28948022302589062190674361737351893382521535853822578548883407686479286108160 4294901760 from hS.cast (by decide +kernel) (by decide +kernel) (by decide +kernel)); clear hS) | (go_at_call 85; (with_reducible refine (Elm_Set b ob w.heap.size 0 _ _ (HS.out.ext.lt H.out.1) HS.out.l0 (HS.out.ext.free H.out.1 H.out.2.1) (HS.out.e0 (by decide))).mono ?_); rintro e w9 ⟨rfl, hT9, hE9⟩; have H9 := Lib.hid (And.intro hT9 hE9); clear hT9 hE9))
                                      have hfin := H9.out.2
                                      rw [show fpow x 115792089210356248762697446949407573530086143415290314195533631308867097853949 = finv x from (by unfold finv; congr 1)] at hfin
                                      exact bodyPost_ret (v := .pointer (some ⟨b, ob, none⟩)) (by simp [results, Try.results109, go_sem]) rfl ⟨rfl, ((Turned.refl _ _ _ _).ext_on H.out.1 HS.out.ext).trans H9.out.1, hfin⟩
end Go.Proofs.Ytmepgkcijeobkaa
