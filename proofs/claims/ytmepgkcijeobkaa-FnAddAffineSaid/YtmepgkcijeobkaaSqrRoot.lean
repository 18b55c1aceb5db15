/-
  What is proved here: what the package's square root returns, and the reference's.
  Conditions: those of each theorem.
-/
import Derived.Test.YtmepgkcijeobkaaProg
import Derived.Test.YtmepgkcijeobkaaEleElo
import Derived.Test.YtmepgkcijeobkaaRowPow
import Derived.Test.YtmepgkcijeobkaaSpecISpecJ
import Derived.WalkKit
import Derived.WalkSpells
import Derived.Outline
import Derived.Handy
import Derived.ProofKit
import Derived.Deep.QuietTactic
import Derived.BigQuiet
import Derived.Lib.Hide
import Derived.OpenShut
namespace Go.Proofs.Ytmepgkcijeobkaa
open Go Go.RowKit Ecp
set_option linter.unusedSimpArgs false
set_option linter.unusedVariables false

/-- Two new elements hold powers of one that is only read. -/
structure SqW (w wr : World) (c oc n0 n1 : Nat) (x : Fp) (m k : Nat) : Prop where
  ext : Ext w wr
  hc : c < w.heap.size
  hx : Elt wr c oc x
  g0 : w.heap.size ≤ n0
  g1 : w.heap.size ≤ n1
  l0 : n0 < wr.heap.size
  l1 : n1 < wr.heap.size
  ne : n0 ≠ n1
  f0 : Free wr n0 0 4
  f1 : Free wr n1 0 4
  e0 : Elt wr n0 0 (fpow x m)
  e1 : Elt wr n1 0 (fpow x k)
theorem SqW.lc {w wr : World} {c oc n0 n1 : Nat} {x : Fp} {m k : Nat} (h : SqW w wr c oc n0 n1 x m k) : c < wr.heap.size := h.ext.lt h.hc
theorem SqW.set0 {w wr w' : World} {c oc n0 n1 : Nat} {x : Fp} {m k : Nat} (h : SqW w wr c oc n0 n1 x m k) (m' : Nat) (hT : Turned n0 0 4 wr w') (hE : Elt w' n0 0 (fpow x m')) : SqW w w' c oc n0 n1 x m' k where
  ext := Turned.ext_of_new h.ext hT h.g0
  hc := h.hc
  hx := h.hx.far hT h.lc (.inl (by have := h.hc; have := h.g0; omega))
  g0 := h.g0
  g1 := h.g1
  l0 := hT.lt h.l0
  l1 := hT.lt h.l1
  ne := h.ne
  f0 := h.f0.turned hT hE h.l0
  f1 := h.f1.far hT h.l1 (.inl h.ne.symm)
  e0 := hE
  e1 := h.e1.far hT h.l1 (.inl h.ne.symm)
theorem SqW.set1 {w wr w' : World} {c oc n0 n1 : Nat} {x : Fp} {m k : Nat} (h : SqW w wr c oc n0 n1 x m k) (k' : Nat) (hT : Turned n1 0 4 wr w') (hE : Elt w' n1 0 (fpow x k')) : SqW w w' c oc n0 n1 x m k' where
  ext := Turned.ext_of_new h.ext hT h.g1
  hc := h.hc
  hx := h.hx.far hT h.lc (.inl (by have := h.hc; have := h.g1; omega))
  g0 := h.g0
  g1 := h.g1
  l0 := hT.lt h.l0
  l1 := hT.lt h.l1
  ne := h.ne
  f0 := h.f0.far hT h.l0 (.inl h.ne)
  f1 := h.f1.turned hT hE h.l1
  e0 := h.e0.far hT h.l0 (.inl h.ne)
  e1 := hE
theorem sq_mulx {w wr : World} {c oc n0 n1 : Nat} {x : Fp} {m k : Nat} (h : SqW w wr c oc n0 n1 x m k) : Calls Try.prog 103 #[.pointer (some ⟨n0, 0, none⟩), .pointer (some ⟨c, oc, none⟩), .pointer (some ⟨n0, 0, none⟩)] wr fun e w' => e = .returned (.pointer (some ⟨n0, 0, none⟩)) ∧ SqW w w' c oc n0 n1 x (1 + m) (k) := by
  refine (Elm_Mul n0 0 c oc n0 0 x (fpow x m) wr h.l0 h.lc h.l0 h.f0 h.hx h.e0).mono ?_
  rintro e w' ⟨rfl, hT, hE⟩
  refine ⟨rfl, h.set0 _ hT ?_⟩
  rw [fpow_add, fpow_one]
  exact hE
theorem sq_mul {w wr : World} {c oc n0 n1 : Nat} {x : Fp} {m k : Nat} (h : SqW w wr c oc n0 n1 x m k) : Calls Try.prog 103 #[.pointer (some ⟨n0, 0, none⟩), .pointer (some ⟨n0, 0, none⟩), .pointer (some ⟨n1, 0, none⟩)] wr fun e w' => e = .returned (.pointer (some ⟨n0, 0, none⟩)) ∧ SqW w w' c oc n0 n1 x (m + k) (k) := by
  refine (Elm_Mul n0 0 n0 0 n1 0 (fpow x m) (fpow x k) wr h.l0 h.l0 h.l1 h.f0 h.e0 h.e1).mono ?_
  rintro e w' ⟨rfl, hT, hE⟩
  refine ⟨rfl, h.set0 _ hT ?_⟩
  rw [fpow_add]
  exact hE
theorem sq_muly {w wr : World} {c oc n0 n1 : Nat} {x : Fp} {m k : Nat} (h : SqW w wr c oc n0 n1 x m k) : Calls Try.prog 103 #[.pointer (some ⟨n0, 0, none⟩), .pointer (some ⟨n1, 0, none⟩), .pointer (some ⟨n0, 0, none⟩)] wr fun e w' => e = .returned (.pointer (some ⟨n0, 0, none⟩)) ∧ SqW w w' c oc n0 n1 x (k + m) (k) := by
  refine (Elm_Mul n0 0 n1 0 n0 0 (fpow x k) (fpow x m) wr h.l0 h.l1 h.l0 h.f0 h.e1 h.e0).mono ?_
  rintro e w' ⟨rfl, hT, hE⟩
  refine ⟨rfl, h.set0 _ hT ?_⟩
  rw [fpow_add]
  exact hE
theorem sq_sqx {w wr : World} {c oc n0 n1 : Nat} {x : Fp} {m k : Nat} (h : SqW w wr c oc n0 n1 x m k) (z : Int) (hz1 : 1 ≤ z) (hz2 : z < 1000) : Calls Try.prog 116 #[.pointer (some ⟨n0, 0, none⟩), .pointer (some ⟨c, oc, none⟩), .int .i64 z] wr fun e w' => e = .returned (.tuple #[]) ∧ SqW w w' c oc n0 n1 x (2 ^ z.toNat) (k) := by
  refine (Sqn_any n0 0 c oc x z wr hz1 hz2 h.l0 h.lc h.f0 h.hx).mono ?_
  rintro e w' ⟨rfl, hT, hE⟩
  refine ⟨rfl, h.set0 _ hT ?_⟩
  exact hE
theorem sq_sq1 {w wr : World} {c oc n0 n1 : Nat} {x : Fp} {m k : Nat} (h : SqW w wr c oc n0 n1 x m k) (z : Int) (hz1 : 1 ≤ z) (hz2 : z < 1000) : Calls Try.prog 116 #[.pointer (some ⟨n1, 0, none⟩), .pointer (some ⟨n0, 0, none⟩), .int .i64 z] wr fun e w' => e = .returned (.tuple #[]) ∧ SqW w w' c oc n0 n1 x (m) (m * 2 ^ z.toNat) := by
  refine (Sqn_any n1 0 n0 0 (fpow x m) z wr hz1 hz2 h.l1 h.l0 h.f1 h.e0).mono ?_
  rintro e w' ⟨rfl, hT, hE⟩
  refine ⟨rfl, h.set1 _ hT ?_⟩
  rw [fpow_mul]
  exact hE
theorem sq_sq0 {w wr : World} {c oc n0 n1 : Nat} {x : Fp} {m k : Nat} (h : SqW w wr c oc n0 n1 x m k) (z : Int) (hz1 : 1 ≤ z) (hz2 : z < 1000) : Calls Try.prog 116 #[.pointer (some ⟨n0, 0, none⟩), .pointer (some ⟨n0, 0, none⟩), .int .i64 z] wr fun e w' => e = .returned (.tuple #[]) ∧ SqW w w' c oc n0 n1 x (m * 2 ^ z.toNat) (k) := by
  refine (Sqn_any n0 0 n0 0 (fpow x m) z wr hz1 hz2 h.l0 h.l0 h.f0 h.e0).mono ?_
  rintro e w' ⟨rfl, hT, hE⟩
  refine ⟨rfl, h.set0 _ hT ?_⟩
  rw [fpow_mul]
  exact hE
theorem sq_e1 {w wr : World} {c oc n0 n1 : Nat} {x : Fp} {m k : Nat} (h : SqW w wr c oc n0 n1 x m k) : Calls Try.prog 102 #[.pointer (some ⟨n1, 0, none⟩), .pointer (some ⟨n0, 0, none⟩)] wr fun e w' => e = .returned (.pointer (some ⟨n1, 0, none⟩)) ∧ SqW w w' c oc n0 n1 x (m) (m * 2) := by
  refine (Elm_Square n1 0 n0 0 (fpow x m) wr h.l1 h.l0 h.f1 h.e0).mono ?_
  rintro e w' ⟨rfl, hT, hE⟩
  refine ⟨rfl, h.set1 _ hT ?_⟩
  rw [fpow_mul, fpow_two]
  exact hE
theorem SqW.cast {w wr : World} {c oc n0 n1 : Nat} {x : Fp} {m k m' k' : Nat} (h : SqW w wr c oc n0 n1 x m k) (hm : m = m') (hk : k = k') : SqW w wr c oc n0 n1 x m' k' := by
  subst hm; subst hk; exact h
/-- .. at the start: both are 0. -/
structure SqB (w wr : World) (c oc n0 n1 : Nat) (x : Fp) : Prop where
  ext : Ext w wr
  hc : c < w.heap.size
  hx : Elt wr c oc x
  g0 : w.heap.size ≤ n0
  g1 : w.heap.size ≤ n1
  l0 : n0 < wr.heap.size
  l1 : n1 < wr.heap.size
  ne : n0 ≠ n1
  f0 : Free wr n0 0 4
  f1 : Free wr n1 0 4
/-- .. the first holds a power. -/
structure SqA (w wr : World) (c oc n0 n1 : Nat) (x : Fp) (m : Nat) : Prop where
  b : SqB w wr c oc n0 n1 x
  e0 : Elt wr n0 0 (fpow x m)
theorem SqB.lc {w wr : World} {c oc n0 n1 : Nat} {x : Fp} (h : SqB w wr c oc n0 n1 x) : c < wr.heap.size := h.ext.lt h.hc
theorem SqB.set0 {w wr w' : World} {c oc n0 n1 : Nat} {x : Fp} (h : SqB w wr c oc n0 n1 x) {v : Fp} (hT : Turned n0 0 4 wr w') (hE : Elt w' n0 0 v) : SqB w w' c oc n0 n1 x where
  ext := Turned.ext_of_new h.ext hT h.g0
  hc := h.hc
  hx := h.hx.far hT h.lc (.inl (by have := h.hc; have := h.g0; omega))
  g0 := h.g0
  g1 := h.g1
  l0 := hT.lt h.l0
  l1 := hT.lt h.l1
  ne := h.ne
  f0 := h.f0.turned hT hE h.l0
  f1 := h.f1.far hT h.l1 (.inl h.ne.symm)
theorem SqA.set1 {w wr w' : World} {c oc n0 n1 : Nat} {x : Fp} {m : Nat} (h : SqA w wr c oc n0 n1 x m) (k : Nat) (hT : Turned n1 0 4 wr w') (hE : Elt w' n1 0 (fpow x k)) : SqW w w' c oc n0 n1 x m k where
  ext := Turned.ext_of_new h.b.ext hT h.b.g1
  hc := h.b.hc
  hx := h.b.hx.far hT h.b.lc (.inl (by have := h.b.hc; have := h.b.g1; omega))
  g0 := h.b.g0
  g1 := h.b.g1
  l0 := hT.lt h.b.l0
  l1 := hT.lt h.b.l1
  ne := h.b.ne
  f0 := h.b.f0.far hT h.b.l0 (.inl h.b.ne)
  f1 := h.b.f1.turned hT hE h.b.l1
  e0 := h.e0.far hT h.b.l0 (.inl h.b.ne)
  e1 := hE
theorem sa_sqx {w wr : World} {c oc n0 n1 : Nat} {x : Fp} (h : SqB w wr c oc n0 n1 x) (z : Int) (hz1 : 1 ≤ z) (hz2 : z < 1000) : Calls Try.prog 116 #[.pointer (some ⟨n0, 0, none⟩), .pointer (some ⟨c, oc, none⟩), .int .i64 z] wr fun e w' => e = .returned (.tuple #[]) ∧ SqA w w' c oc n0 n1 x (2 ^ z.toNat) := by
  refine (Sqn_any n0 0 c oc x z wr hz1 hz2 h.l0 h.lc h.f0 h.hx).mono ?_
  rintro e w' ⟨rfl, hT, hE⟩
  exact ⟨rfl, h.set0 hT hE, hE⟩
theorem sa_sq1 {w wr : World} {c oc n0 n1 : Nat} {x : Fp} {m : Nat} (h : SqA w wr c oc n0 n1 x m) (z : Int) (hz1 : 1 ≤ z) (hz2 : z < 1000) : Calls Try.prog 116 #[.pointer (some ⟨n1, 0, none⟩), .pointer (some ⟨n0, 0, none⟩), .int .i64 z] wr fun e w' => e = .returned (.tuple #[]) ∧ SqW w w' c oc n0 n1 x m (m * 2 ^ z.toNat) := by
  refine (Sqn_any n1 0 n0 0 (fpow x m) z wr hz1 hz2 h.b.l1 h.b.l0 h.b.f1 h.e0).mono ?_
  rintro e w' ⟨rfl, hT, hE⟩
  exact ⟨rfl, h.set1 _ hT (by rw [fpow_mul]; exact hE)⟩
theorem sa_mulx {w wr : World} {c oc n0 n1 : Nat} {x : Fp} {m : Nat} (h : SqA w wr c oc n0 n1 x m) : Calls Try.prog 103 #[.pointer (some ⟨n0, 0, none⟩), .pointer (some ⟨c, oc, none⟩), .pointer (some ⟨n0, 0, none⟩)] wr fun e w' => e = .returned (.pointer (some ⟨n0, 0, none⟩)) ∧ SqA w w' c oc n0 n1 x (1 + m) := by
  refine (Elm_Mul n0 0 c oc n0 0 x (fpow x m) wr h.b.l0 h.b.lc h.b.l0 h.b.f0 h.b.hx h.e0).mono ?_
  rintro e w' ⟨rfl, hT, hE⟩
  have hE2 : Elt w' n0 0 (fpow x (1 + m)) := by rw [fpow_add, fpow_one]; exact hE
  exact ⟨rfl, h.b.set0 hT hE2, hE2⟩
set_option maxHeartbeats 2000000 in
set_option maxRecDepth 100000 in
theorem Sqrt_yes (b ob c oc : Nat) (x : Fp) (w : World) (hb : b < w.heap.size) (hc : c < w.heap.size) (hf : Free w b ob 4) (hx : Elt w c oc x) (hr : (fpow x ((pN + 1) / 4)) * (fpow x ((pN + 1) / 4)) = x) :
    Calls Try.prog 88 #[.pointer (some ⟨b, ob, none⟩), .pointer (some ⟨c, oc, none⟩)] w fun e w' => e = .returned (.bool true) ∧ Turned b ob 4 w w' ∧ Elt w' b ob (fpow x ((pN + 1) / 4)) := by
  have l0 : w.heap.size < ((w.alloc (.cells #[.int .u64 0, .int .u64 0, .int .u64 0, .int .u64 0] 111)).alloc (.cells #[.int .u64 0, .int .u64 0, .int .u64 0, .int .u64 0] 111)).heap.size := by simp [size_alloc] <;> omega
  have l1 : w.heap.size + 1 < ((w.alloc (.cells #[.int .u64 0, .int .u64 0, .int .u64 0, .int .u64 0] 111)).alloc (.cells #[.int .u64 0, .int .u64 0, .int .u64 0, .int .u64 0] 111)).heap.size := by simp [size_alloc] <;> omega
  have hS0 : SqB w ((w.alloc (.cells #[.int .u64 0, .int .u64 0, .int .u64 0, .int .u64 0] 111)).alloc (.cells #[.int .u64 0, .int .u64 0, .int .u64 0, .int .u64 0] 111)) c oc w.heap.size (w.heap.size + 1) x := ⟨(Ext.al _ _).trans (Ext.al _ _), hc, (hx.alloc hc _).alloc (size_al hc _) _, Nat.le_refl _, Nat.le_succ _, l0, l1, by omega, Free.alloc (Free.newWords rfl rfl) (by simp [size_alloc]) _, Free.newWords (by simp [size_alloc]) rfl⟩
  have HS := Lib.hid hS0
  have H := Lib.hid (And.intro hb (And.intro hf hr))
  clear l0 l1 hS0 hb hc hf hx hr
  go_enter Try.func88, Try.ntmps88
  go_wp2_with (first | (go_at_call 116; first | ((with_reducible refine (sa_sqx HS.out _ (by decide) (by decide)).mono ?_); rintro e w' ⟨rfl, hS⟩; replace HS := Lib.hid hS; clear hS) | ((with_reducible refine (sa_sq1 HS.out _ (by decide) (by decide)).mono ?_); rintro e w' ⟨rfl, hS⟩; replace HS := Lib.hid hS; clear hS) | ((with_reducible refine (sq_sq1 HS.out _ (by decide) (by decide)).mono ?_); rintro e w' ⟨rfl, hS⟩; replace HS := Lib.hid hS; clear hS) | ((with_reducible refine (sq_sq0 HS.out _ (by decide) (by decide)).mono ?_); rintro e w' ⟨rfl, hS⟩; replace HS := Lib.hid hS; clear hS)) | (go_at_call 103; first | ((with_reducible refine (sa_mulx HS.out).mono ?_); rintro e w' ⟨rfl, hS⟩; replace HS := Lib.hid hS; clear hS) | ((with_reducible refine (sq_mul HS.out).mono ?_); rintro e w' ⟨rfl, hS⟩; replace HS := Lib.hid hS; clear hS) | ((with_reducible refine (sq_mulx HS.out).mono ?_); rintro e w' ⟨rfl, hS⟩; replace HS := Lib.hid hS; clear hS)) | (go_at_call 102; ((with_reducible refine (sq_e1 HS.out).mono ?_); rintro e w' ⟨rfl, hS⟩; replace HS := Lib.hid hS; clear hS)) | (go_at_call 114; have hm : SqW w _ c oc w.heap.size (w.heap.size + 1) x ((pN + 1) / 4) ((pN + 1) / 4 * 2)   := HS.out.cast (by decide +kernel) (by decide +kernel); have HM := Lib.hid hm; clear hm; (with_reducible refine (Equal_any (w.heap.size + 1) 0 c oc _ x _ HM.out.l1 HM.out.lc HM.out.e1 HM.out.hx).mono ?_); rintro e w3 ⟨he, hE3⟩; rw [fpow_mul, fpow_two, if_pos H.out.2.2] at he; subst he; have H3 := Lib.hid hE3; clear hE3) | (go_at_call 85; (with_reducible refine (Elm_Set b ob w.heap.size 0 _ w3 (H3.out.lt (HM.out.ext.lt H.out.1)) (H3.out.lt HM.out.l0) (H3.out.free (HM.out.ext.lt H.out.1) (HM.out.ext.free H.out.1 H.out.2.1)) (H3.out.elt HM.out.l0 HM.out.e0)).mono ?_); rintro e w4 ⟨rfl, hT4, hE4⟩; have H4 := Lib.hid (And.intro hT4 hE4); clear hT4 hE4))
  exact bodyPost_ret (v := .bool true) (by simp [results, Try.results88, go_sem]) rfl ⟨rfl, ((Turned.refl _ _ _ _).ext_on H.out.1 (HM.out.ext.trans H3.out)).trans H4.out.1, H4.out.2⟩
set_option maxHeartbeats 2000000 in
set_option maxRecDepth 100000 in
theorem Sqrt_no (b ob c oc : Nat) (x : Fp) (w : World) (hb : b < w.heap.size) (hc : c < w.heap.size) (hf : Free w b ob 4) (hx : Elt w c oc x) (hr : ¬ (fpow x ((pN + 1) / 4)) * (fpow x ((pN + 1) / 4)) = x) :
    Calls Try.prog 88 #[.pointer (some ⟨b, ob, none⟩), .pointer (some ⟨c, oc, none⟩)] w fun e w' => e = .returned (.bool false) ∧ Ext w w' := by
  have l0 : w.heap.size < ((w.alloc (.cells #[.int .u64 0, .int .u64 0, .int .u64 0, .int .u64 0] 111)).alloc (.cells #[.int .u64 0, .int .u64 0, .int .u64 0, .int .u64 0] 111)).heap.size := by simp [size_alloc] <;> omega
  have l1 : w.heap.size + 1 < ((w.alloc (.cells #[.int .u64 0, .int .u64 0, .int .u64 0, .int .u64 0] 111)).alloc (.cells #[.int .u64 0, .int .u64 0, .int .u64 0, .int .u64 0] 111)).heap.size := by simp [size_alloc] <;> omega
  have hS0 : SqB w ((w.alloc (.cells #[.int .u64 0, .int .u64 0, .int .u64 0, .int .u64 0] 111)).alloc (.cells #[.int .u64 0, .int .u64 0, .int .u64 0, .int .u64 0] 111)) c oc w.heap.size (w.heap.size + 1) x := ⟨(Ext.al _ _).trans (Ext.al _ _), hc, (hx.alloc hc _).alloc (size_al hc _) _, Nat.le_refl _, Nat.le_succ _, l0, l1, by omega, Free.alloc (Free.newWords rfl rfl) (by simp [size_alloc]) _, Free.newWords (by simp [size_alloc]) rfl⟩
  have HS := Lib.hid hS0
  have H := Lib.hid (And.intro hb (And.intro hf hr))
  clear l0 l1 hS0 hb hc hf hx hr
  go_enter Try.func88, Try.ntmps88
  go_wp2_with (first | (go_at_call 116; first | ((with_reducible refine (sa_sqx HS.out _ (by decide) (by decide)).mono ?_); rintro e w' ⟨rfl, hS⟩; replace HS := Lib.hid hS; clear hS) | ((with_reducible refine (sa_sq1 HS.out _ (by decide) (by decide)).mono ?_); rintro e w' ⟨rfl, hS⟩; replace HS := Lib.hid hS; clear hS) | ((with_reducible refine (sq_sq1 HS.out _ (by decide) (by decide)).mono ?_); rintro e w' ⟨rfl, hS⟩; replace HS := Lib.hid hS; clear hS) | ((with_reducible refine (sq_sq0 HS.out _ (by decide) (by decide)).mono ?_); rintro e w' ⟨rfl, hS⟩; replace HS := Lib.hid hS; clear hS)) | (go_at_call 103; first | ((with_reducible refine (sa_mulx HS.out).mono ?_); rintro e w' ⟨rfl, hS⟩; replace HS := Lib.hid hS; clear hS) | ((with_reducible refine (sq_mul HS.out).mono ?_); rintro e w' ⟨rfl, hS⟩; replace HS := Lib.hid hS; clear hS) | ((with_reducible refine (sq_mulx HS.out).mono ?_); rintro e w' ⟨rfl, hS⟩; replace HS := Lib.hid hS; clear hS)) | (go_at_call 102; ((with_reducible refine (sq_e1 HS.out).mono ?_); rintro e w' ⟨rfl, hS⟩; replace HS := Lib.hid hS; clear hS)) | (go_at_call 114; have hm : SqW w _ c oc w.heap.size (w.heap.size + 1) x ((pN + 1) / 4) ((pN + 1) / 4 * 2)   := HS.out.cast (by decide +kernel) (by decide +kernel); have HM := Lib.hid hm; clear hm; (with_reducible refine (Equal_any (w.heap.size + 1) 0 c oc _ x _ HM.out.l1 HM.out.lc HM.out.e1 HM.out.hx).mono ?_); rintro e w3 ⟨he, hE3⟩; rw [fpow_mul, fpow_two, if_neg H.out.2.2] at he; subst he; have H3 := Lib.hid hE3; clear hE3))
  exact bodyPost_ret (v := .bool false) (by simp [results, Try.results88, go_sem]) rfl ⟨rfl, HM.out.ext.trans H3.out⟩
end Go.Proofs.Ytmepgkcijeobkaa
/-
  What is proved here: what the reference's square root returns, and the door on the package's.
  Conditions: those of each theorem.
-/
namespace Go.Proofs.Ytmepgkcijeobkaa
open Go Go.RowKit Ecp
set_option linter.unusedSimpArgs false
set_option linter.unusedVariables false

theorem results_cell_tmp2 {P : Program} {fn : Func} {p q q2 : Tmp} {ty : TypeId} (h : fn.results = #[.cell p ty, .tmp q, .tmp q2]) (tmps : Array Value) (w : World) (g : Nat) (t : TypeId) (cs : Array Value) (fr : Nat × Nat) (d : TypeDesc)
    (hp : tmps.getD p undef = .pointer (some ⟨g, 0, none⟩)) (v : Value) (hv : tmps.getD q undef = v) (v2 : Value) (hv2 : tmps.getD q2 undef = v2) (hg : w.heap[g]? = some (.cells cs t fr))
    (hu : P.underlying ty = some d) (hd : (match d with | .struct _ | .array _ _ => true | _ => false) = true) (hi : (P.info? ty).map (·.size) = some cs.size) :
    (results fn tmps).run P w = .ok (.tuple #[.agg cs, v, v2]) w := by
  subst hv
  subst hv2
  have hp' : tmps[p]?.getD undef = .pointer (some ⟨g, 0, none⟩) := by simpa using hp
  simp [results, h, hp', asAddr, run_loadVar_row w g t ty cs fr d hg hu hd hi]
theorem ec_root : ec (((pN + 1) / 4 : Nat) : Int) = #[.int .i64 0, .int .i64 0, .int .i64 1073741824, .int .i64 0, .int .i64 0, .int .i64 1073741824, .int .i64 3221225472, .int .i64 1073741823] := by
  have e : ec (((pN + 1) / 4 : Nat) : Int) = ((digs 8 (((pN + 1) / 4 : Nat) : Int)).map (Value.int .i64)).toArray := by unfold ec; rfl
  rw [e, show digs 8 (((pN + 1) / 4 : Nat) : Int) = [0, 0, 1073741824, 0, 0, 1073741824, 3221225472, 1073741823] by decide +kernel]
  rfl
theorem root_lt : (((pN + 1) / 4 : Nat) : Int) < R256 := by decide +kernel
theorem carried_root (w : World) : Calls Try.prog 78 #[.agg #[.int .i64 4294967296, .int .i64 4294967295, .int .i64 4294967295, .int .i64 0, .int .i64 0, .int .i64 0, .int .i64 1, .int .i64 4294967295]] w fun e w' => e = .returned (.tuple #[.agg #[.int .i64 0, .int .i64 0, .int .i64 0, .int .i64 1, .int .i64 0, .int .i64 0, .int .i64 1, .int .i64 4294967295], .int .i64 0]) ∧ Ext w w' := by
  have h := carried_any [4294967296, 4294967295, 4294967295, 0, 0, 0, 1, 4294967295] rfl (by decide) w
  have e1 : E8 (val [4294967296, 4294967295, 4294967295, 0, 0, 0, 1, 4294967295]) = .agg #[.int .i64 0, .int .i64 0, .int .i64 0, .int .i64 1, .int .i64 0, .int .i64 0, .int .i64 1, .int .i64 4294967295] := by
    unfold E8
    rw [show digs 8 (val [4294967296, 4294967295, 4294967295, 0, 0, 0, 1, 4294967295]) = [0, 0, 0, 1, 0, 0, 1, 4294967295] by decide +kernel]
    rfl
  have e2 : cy 8 (val [4294967296, 4294967295, 4294967295, 0, 0, 0, 1, 4294967295]) = 0 := by decide +kernel
  rw [e1, e2] at h
  exact h
set_option maxHeartbeats 4000000 in
set_option maxRecDepth 100000 in
theorem Root_row (x : Fp) (w : World) : Calls Try.prog 53 #[.agg (ec (x.val : Int))] w fun e w' => e = .returned (.tuple #[.agg (ec ((fpow x ((pN + 1) / 4)).val : Int)), .bool (decide ((fpow x ((pN + 1) / 4)) * (fpow x ((pN + 1) / 4)) = x))]) ∧ Ext w w' := by
  have HP := Lib.hid (fun w => (by have h := Power_row x ((pN + 1) / 4) root_lt w; rw [ec_root] at h; exact h : Calls Try.prog 79 #[.agg (ec (x.val : Int)), .agg #[.int .i64 0, .int .i64 0, .int .i64 1073741824, .int .i64 0, .int .i64 0, .int .i64 1073741824, .int .i64 3221225472, .int .i64 1073741823]] w fun e w' => e = .returned (.agg (ec ((fpow x ((pN + 1) / 4)).val : Int))) ∧ Ext w w'))
  have hT := Times_row (fpow x ((pN + 1) / 4)) (fpow x ((pN + 1) / 4))
  generalize (fpow x ((pN + 1) / 4)) = r at *
  have HT := Lib.hid hT
  clear hT
  have hb0 : bits BinOp.and IntKind.i64 0 3 = 0 := by decide +kernel
  have hb1 : bits BinOp.and IntKind.i64 1 3 = 1 := by decide +kernel
  have hb3 : bits BinOp.and IntKind.i64 4294967295 3 = 3 := by decide +kernel
  have hw0 : wrap64 0 = 0 := by decide +kernel
  have hw1 : wrap64 1073741824 = 1073741824 := by decide +kernel
  have hw3 : wrap64 3221225472 = 3221225472 := by decide +kernel
  go_enter Try.func53, Try.ntmps53
  go_wp2_with (first | (go_at_call 44; go_must (refine (Prime_lit _).mono ?_); rintro e w' ⟨rfl, g1, rfl⟩) | (go_at_call 78; go_must (refine (carried_root _).mono ?_); rintro e w' ⟨rfl, g2, rfl⟩))
  refine wp_loop_rounds 9 ?_
  iterate 8 (rw [rounds_succ]; go_wp2_with (refine wp_quiet_tail (l := [_, _, _, _, _, _, _, _, _, _, _, _]) 11 (by kernel_rfl) (by kernel_rfl) ?_; simp only [List.take_succ_cons, List.take_zero, List.drop_succ_cons, List.drop_zero]; (repeat ((go_big_quiet_want; go_big_quiet_op; go_big_quiet_on))); refine wpQuiet_nil ?_; intro _ hw'; obtain ⟨nq, hw''⟩ := hw'; subst hw''))
  rw [rounds_succ]
  go_wp2_with (first | (go_at_call 79; go_must (with_reducible refine (HP.out _).mono ?_); rintro e w' ⟨rfl, g3, rfl⟩) | (first | (refine wp_late_tail (l := [_, _, _, _, _, _, _, _]) 6 (w.heap.size + 1) 24 _ (ec (r.val : Int)) (by kernel_rfl) (by kernel_rfl) (fun o h => (Option.some.inj h) ▸ rfl) (by (with_reducible first | assumption | (simp only [hsA, setRow_heap]; rfl) | (repeat (fail)))) (by simp only [ec_size, bc_size, pc_size, tc_size, ec_size, bc_size, pc_size, tc_size]; try rfl) ?_; simp only [List.take_succ_cons, List.take_zero, List.drop_succ_cons, List.drop_zero]; (try simp only [act_put_none]); (apply wpX_step _ (Away.refl _ _) rfl rfl rfl (by simp); (· intro u9 hu9 K9 hK9; ((refine quiet_load_row 24 _ rfl _ rfl _ _ _ _ (by rintro _ ⟨g9, rfl⟩; refine ext_row (Ext.gr _ _) ?_; refine Away.row hu9 ?_ (by omega); (with_reducible (simp only [hsA, setRow_heap]; rfl))) Try.underlying24 rfl (inE _) ?_; go_simp; exact hK9)))); (apply wpX_step _ (Away.refl _ _) rfl rfl rfl (by simp); (· intro u9 hu9 K9 hK9; ((refine quiet_load_row 24 _ rfl _ rfl _ _ _ _ (by rintro _ ⟨g9, rfl⟩; refine ext_row (Ext.gr _ _) ?_; refine Away.row hu9 ?_ (by omega); (with_reducible (simp only [hsA, setRow_heap]; rfl))) Try.underlying24 rfl (inE _) ?_; go_simp; exact hK9)))); (apply wpX_step _ (Away.refl _ _) rfl rfl rfl (by simp); (· intro u9 hu9 K9 hK9; ((refine quiet_load_row 24 _ rfl _ rfl _ _ _ _ (by rintro _ ⟨g9, rfl⟩; refine ext_row (Ext.gr _ _) ?_; refine Away.row hu9 ?_ (by omega); (with_reducible (simp only [hsA, setRow_heap]; rfl))) Try.underlying24 rfl (inE _) ?_; go_simp; exact hK9)))); (apply wpX_step _ (Away.refl _ _) rfl rfl rfl (by simp); (· intro u9 hu9 K9 hK9; (go_big_quiet_op; apply Exists.intro; refine ⟨fun _ => ?_, ?_⟩; (· ((go_at_call 64; with_reducible exact calls_grow (HT.out _)))); exact hK9))); (apply wpX_step _ (Away.refl _ _) rfl rfl rfl (by simp); (· intro u9 hu9 K9 hK9; ((refine quiet_load_row 24 _ rfl _ rfl _ _ _ _ (by rintro _ ⟨g9, rfl⟩; refine ext_row (Ext.gr _ _) ?_; refine Away.row hu9 ?_ (by omega); (with_reducible (simp only [hsA, setRow_heap]; rfl))) Try.underlying24 rfl (inE _) ?_; go_simp; exact hK9)))); (apply wpX_step _ (Away.refl _ _) rfl rfl rfl (by simp); (· intro u9 hu9 K9 hK9; ((with_reducible refine quiet_eqlE _ _ rfl _ _ _ rfl rfl (digs_fp _ _) ?_); go_simp; exact hK9))); refine wpX_make rfl rfl (LaysE.of rfl rfl rfl (inE _) (ec_one _)) ?_; intro _; (try simp only [act_put_none]); refine wpX_nil ?_; intro w8 hA8 hr8; skip) | (refine wpList_load_rowW rfl 24 _ rfl _ rfl _ _ _ _ (by (with_reducible first | assumption | (simp only [hsA, setRow_heap]; rfl) | (repeat (fail)))) Try.underlying24 rfl (inE _) ?_) | (refine wpList_store_rowW rfl 24 _ _ rfl _ _ rfl rfl _ _ (by (with_reducible first | assumption | (simp only [hsA, setRow_heap]; rfl) | (repeat (fail)))) (inE _) (by simp only [ec_size, bc_size, pc_size, tc_size, ec_size, bc_size, pc_size, tc_size]; try rfl) (ec_one _) ?_; (try simp only [nmA]))))
  refine bodyPost_ret (results_cell_tmp rfl _ _ _ 24 _ (0, 0) _ rfl _ rfl hr8 Try.underlying24 rfl (inE _)) rfl ⟨?_, Ext.away (by (repeat (first | exact Ext.refl _ | refine Ext.trans ?_ (Ext.al _ _) | refine Ext.trans ?_ (Ext.gr _ _)))) (by omega) hA8⟩
  rfl
end Go.Proofs.Ytmepgkcijeobkaa
