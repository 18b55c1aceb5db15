/-
  What is proved here: how an element is told in bytes, and compared.
  Conditions: those of each theorem.
-/
import Derived.Test.YtgdjmgcolipcnaaProg
import Derived.Test.YtgdjmgcolipcnaaByt
import Derived.Test.YtgdjmgcolipcnaaEngFEngGEngHEngI
import Derived.Laws.IdiomCopy
import Derived.WalkKit
import Derived.WalkSpells
import Derived.Outline
import Derived.Handy
import Derived.ProofKit
import Derived.Deep.QuietTactic
import Derived.BigQuiet
import Derived.Lib.Hide
import Derived.OpenShut
namespace Go.Proofs.Ytgdjmgcolipcnaa
open Go Go.RowKit Ecp
set_option linter.unusedSimpArgs false
set_option linter.unusedVariables false

theorem Held.alloc {k : IntKind} {w : World} {b o : Nat} {xs : List Int} (h : Held k w b o xs) (hb : b < w.heap.size) (ob : Obj) : Held k (w.alloc ob) b o xs := fun i x hi => by rw [cell_al1 hb]; exact h i x hi
theorem Elt.alloc {w : World} {b o : Nat} {x : Fp} (h : Elt w b o x) (hb : b < w.heap.size) (ob : Obj) : Elt (w.alloc ob) b o x := Held.alloc h hb ob
theorem frozen_al {w : World} {c : Nat} (h : c < w.heap.size) (o : Obj) (i : Nat) : (w.alloc o).frozen? ⟨c, i, none⟩ = w.frozen? ⟨c, i, none⟩ := by
  unfold World.frozen?; rw [heap_past _ _ _ h]
theorem Free.alloc {w : World} {b o len : Nat} (h : Free w b o len) (hb : b < w.heap.size) (ob : Obj) : Free (w.alloc ob) b o len := fun i hi => by
  rw [cell_al1 hb, frozen_al hb]; exact h i hi
theorem Turned.alloc {b o len : Nat} {u v : World} (h : Turned b o len u v) (hb : b < u.heap.size) (ob : Obj) : Turned b o len u (v.alloc ob) := by
  have hbv : b < v.heap.size := Nat.lt_of_lt_of_le hb h.size
  exact ⟨h.away.alloc ob, fun i hi => by rw [cell_al1 hbv]; exact h.keep i hi, fun i => by rw [frozen_al hbv]; exact h.frz i⟩
theorem size_al' {w : World} {c : Nat} (h : c < w.heap.size) (o : Obj) : c < (w.alloc o).heap.size := size_al h o
theorem Turned.lt {b o len c : Nat} {u v : World} (h : Turned b o len u v) (hc : c < u.heap.size) : c < v.heap.size := Nat.lt_of_lt_of_le hc h.size
theorem Free.newWords {w : World} {n len : Nat} {t : TypeId} {cs : Array Value} (hn : n = w.heap.size) (hs : cs.size = len) : Free (w.alloc (.cells cs t)) n 0 len := by
  intro i hi
  have hat := heap_at w (.cells cs t) n hn
  refine ⟨⟨cs[i]'(by omega), ?_⟩, ?_⟩
  · simp [World.cell?, hat]
  · simp [World.frozen?, hat]
theorem setCells_turned : ∀ (cs : List Value) (w : World) (b o : Nat), (∀ j, j < cs.length → (w.cell? ⟨b, o + j, none⟩).isSome = true) →
    Turned b o cs.length w (w.setCells b o cs) ∧ ∀ j v, cs[j]? = some v → (w.setCells b o cs).cell? ⟨b, o + j, none⟩ = some v
  | [], w, b, o, _ => ⟨Turned.refl _ _ _ _, fun j v h => by simp at h⟩
  | c :: cs, w, b, o, hs => by
    have h0 := hs 0 (by simp)
    simp only [Nat.add_zero] at h0
    obtain ⟨hT, hc⟩ := setCells_turned cs (w.setCell ⟨b, o, none⟩ c) b (o + 1) (fun j hj => by
      rw [cell_set_isSome]
      have := hs (j + 1) (by simp <;> omega)
      rwa [show o + (j + 1) = o + 1 + j by omega] at this)
    have h1 : Turned b o (c :: cs).length w (w.setCell ⟨b, o, none⟩ c) := ⟨(Away.refl b w).setCell _ _, fun i hi => by
      have := hi 0 (by simp)
      rw [World.cell?_setCell_other _ _ _ _ (by simp <;> omega)], fun i => by rw [World.frozen?_setCell]⟩
    refine ⟨h1.trans (hT.widen (by omega) (by simp <;> omega)), ?_⟩
    intro j v hj
    cases j with
    | zero =>
      obtain rfl : c = v := by simpa using hj
      show ((w.setCell ⟨b, o, none⟩ c).setCells b (o + 1) cs).cell? _ = _
      rw [hT.keep (o + 0) (fun i hi => by omega), cell_set _ _ _ _ _ h0, if_pos (by omega)]
    | succ j =>
      have := hc j v (by simpa using hj)
      rwa [show o + 1 + j = o + (j + 1) by omega] at this
/-- A copy of bytes. -/
theorem wpList_copy_held {P : Program} {w : World} {ops : Array Oper} {rest : List Oper} {o : Oper} {a : Act} {Q : Exit → Act → World → Prop} (hgd : o.guard = none) (d s : Operand) (dT sT : TypeId)
    (ho : o.op = .call { callee := .builtin .copy, args := #[d, s], argTypes := #[dT, sT] }) (elem : TypeId) (hu : P.underlying dT = some (.slice elem)) (hsz : (P.info? elem).map (·.size) = some 1)
    {k : IntKind} (b off n dCap c p sCap : Nat) (xs : List Int) (hd : a.eval d = .slice (some ⟨b, off, none⟩) n dCap) (hs : a.eval s = .slice (some ⟨c, p, none⟩) n sCap) (hl : xs.length = n) (hx : Held k w c p xs) (hf : Free w b off n)
    (h : ∀ w', Turned b off n w w' → Held k w' b off xs → wpList P ops Q rest (a.put o.dst (goInt n)) w') : wpList P ops Q (o :: rest) a w := by
  refine wpList_plain hgd fun K hK => ?_
  have hlen : (xs.map (Value.int k)).length = n := by simp [hl]
  have hrun := run_copy_cells (P := P) w dT sT o.type elem b off n dCap ⟨c, p, none⟩ n sCap (xs.map (Value.int k)) hu hsz (by rw [hlen]; simp) (fun j v hj => by
    rw [List.getElem?_map] at hj
    obtain ⟨x, hx1, rfl⟩ := Option.map_eq_some_iff.1 hj
    rw [add_ptr]
    exact hx j x hx1) (fun j hj => by obtain ⟨⟨u, hu'⟩, _⟩ := hf j (by omega); rw [hu']; rfl) (fun j hj => (hf j (by omega)).2) (fun v hv => by
    obtain ⟨x, _, rfl⟩ := List.mem_map.1 hv
    rfl)
  obtain ⟨hT, hc⟩ := setCells_turned (xs.map (Value.int k)) w b off (fun j hj => by obtain ⟨⟨u, hu'⟩, _⟩ := hf j (by omega); rw [hu']; rfl)
  rw [hlen] at hT hrun
  unfold Oper.wp
  simp [execOp, ho, resolve, invoke, builtin, hd, hs, hrun, Result.andThen]
  exact hK _ _ (h _ hT fun j x hj => hc j _ (by rw [List.getElem?_map, hj]; rfl))
/-- Where words were laid, they are free still. -/
theorem Free.heldFree {w w' : World} {b o len : Nat} {k : IntKind} {xs : List Int} (h : Free w b o len) (hT : Turned b o len w w') (hE : Held k w' b o xs) (hl : len ≤ xs.length) (hb : b < w.heap.size) : Free w' b o len := by
  intro i hi
  refine ⟨⟨_, hE i _ (List.getElem?_eq_getElem (by omega))⟩, ?_⟩
  rw [hT.frz]
  exact (h i hi).2
/-- What Turned is to what was there: nothing but the new. -/
theorem Turned.ext_of_new {b o len : Nat} {u v w : World} (hE : Ext u v) (h : Turned b o len v w) (hn : u.heap.size ≤ b) : Ext u w := by
  refine Ext.of_below (Below.trans hE.below ⟨h.away.2.1, h.away.1, h.away.2.2.1, h.size, fun k hk => h.away.2.2.2.2 k (Nat.lt_of_lt_of_le hk hE.below.size) (by omega)⟩)
theorem Ext.al (w : World) (ob : Obj) : Ext w (w.alloc ob) := Ext.of_below ⟨rfl, rfl, rfl, by rw [size_alloc]; omega, fun k hk => heap_past _ _ _ hk⟩
theorem Ext.lt {u v : World} (h : Ext u v) {c : Nat} (hc : c < u.heap.size) : c < v.heap.size := Nat.lt_of_lt_of_le hc h.below.size
theorem Ext.held {u v : World} (h : Ext u v) {k : IntKind} {b o : Nat} {xs : List Int} (hb : b < u.heap.size) (hh : Held k u b o xs) : Held k v b o xs := by obtain ⟨g, rfl⟩ := h; exact hh.ext hb g
theorem Ext.elt {u v : World} (h : Ext u v) {b o : Nat} {x : Fp} (hb : b < u.heap.size) (hh : Elt u b o x) : Elt v b o x := Ext.held h hb hh
theorem Ext.free {u v : World} (h : Ext u v) {b o len : Nat} (hb : b < u.heap.size) (hh : Free u b o len) : Free v b o len := by obtain ⟨g, rfl⟩ := h; exact hh.ext hb g
theorem Ext.turned {b o len : Nat} {u v w : World} (h : Turned b o len u v) (hb : b < u.heap.size) (hE : Ext v w) : Turned b o len u w := by obtain ⟨g, rfl⟩ := hE; exact h.ext hb g

set_option maxHeartbeats 2000000 in
set_option maxRecDepth 100000 in
theorem bytes_any (b o c : Nat) (x : Fp) (w : World) (hb : b < w.heap.size) (hc : c < w.heap.size) (h : Elt w b o x) (hf : Free w c 0 32) :
    Calls Try.prog 65 #[.pointer (some ⟨b, o, none⟩), .pointer (some ⟨c, 0, none⟩)] w fun e w' => e = .returned (.slice (some ⟨c, 0, none⟩) 32 32) ∧ Turned c 0 32 w w' ∧ Held .u8 w' c 0 (bds 32 (x.val : Int)).reverse := by
  have xb : 0 ≤ (x.val : Int) ∧ (x.val : Int) < R256 := ⟨Int.natCast_nonneg _, by have := x.isLt; have := pI_lt; rw [pI_pN] at this; omega⟩
  have H := Lib.hid (And.intro hb (And.intro hc (And.intro h (And.intro hf xb))))
  clear hb hc h hf xb
  go_enter Try.func65, Try.ntmps65
  go_wp2_with (first
    | (go_at_call 69; go_must (refine (p256FromMontgomery_any w.heap.size 0 b o x _ (by rw [size_alloc]; omega) (size_al' H.out.1 _) (Free.newWords rfl rfl) (H.out.2.2.1.alloc H.out.1 _)).mono ?_); rintro e w1 ⟨rfl, hT, hE⟩; have H1 := Lib.hid (And.intro hT hE); clear hT hE)
    | (go_at_call 70; go_must (refine (p256ToBytes_any c 0 w.heap.size 0 (x.val : Int) H.out.2.2.2.2.1 H.out.2.2.2.2.2 w1 (H1.out.1.lt (size_al' H.out.2.1 _)) (H1.out.1.lt (by rw [size_alloc]; omega)) (((H.out.2.2.2.1.alloc H.out.2.1 _).far H1.out.1 (size_al' H.out.2.1 _) (.inl (by have := H.out.2.1; omega)))) H1.out.2).mono ?_); rintro e w2 ⟨rfl, hT, hE⟩; have H2 := Lib.hid (And.intro hT hE); clear hT hE)
    | (go_at_call 57; go_must (refine (Invert_any c 0 32 (bds 32 (x.val : Int)) (bds_length _ _) w2 (H2.out.1.lt (H1.out.1.lt (size_al' H.out.2.1 _))) ((((H.out.2.2.2.1.alloc H.out.2.1 _).far H1.out.1 (size_al' H.out.2.1 _) (.inl (by have := H.out.2.1; omega)))).heldFree H2.out.1 H2.out.2 (by rw [bds_length]; exact Nat.le_refl _) (H1.out.1.lt (size_al' H.out.2.1 _))) H2.out.2).mono ?_); rintro e w3 ⟨rfl, hT, hE⟩; have H3 := Lib.hid (And.intro hT hE); clear hT hE))
  refine bodyPost_ret (v := .slice (some ⟨c, 0, none⟩) 32 32) (by simp [results, Try.results65, go_sem]) rfl ⟨rfl, ?_, H3.out.2⟩
  refine Turned.trans (Turned.trans ?_ H2.out.1) H3.out.1
  exact Turned.new ((Turned.refl c 0 32 w).alloc H.out.2.1 _) H1.out.1 (Nat.le_refl _) H.out.2.1

set_option maxHeartbeats 2000000 in
set_option maxRecDepth 100000 in
theorem Bytes_any (b o : Nat) (x : Fp) (w : World) (hb : b < w.heap.size) (h : Elt w b o x) :
    Calls Try.prog 55 #[.pointer (some ⟨b, o, none⟩)] w fun e w' => e = .returned (.slice (some ⟨w.heap.size, 0, none⟩) 32 32) ∧ Ext w w' ∧ w.heap.size < w'.heap.size ∧ Held .u8 w' w.heap.size 0 (bds 32 (x.val : Int)).reverse := by
  have H := Lib.hid (And.intro hb h)
  clear hb h
  go_enter Try.func55, Try.ntmps55
  go_wp2_with (go_at_call 65; go_must (refine (bytes_any b o w.heap.size x _ (size_al' H.out.1 _) (by rw [size_alloc]; omega) (H.out.2.alloc H.out.1 _) (Free.newWords rfl rfl)).mono ?_); rintro e w1 ⟨rfl, hT, hE⟩; have H1 := Lib.hid (And.intro hT hE); clear hT hE)
  refine bodyPost_ret (v := .slice (some ⟨w.heap.size, 0, none⟩) 32 32) (by simp [results, Try.results55, go_sem]) rfl ⟨rfl, ?_, H1.out.1.lt (by rw [size_alloc]; omega), H1.out.2⟩
  exact Turned.ext_of_new (Ext.al w _) H1.out.1 (Nat.le_refl _)

theorem bds_rev_eq (x y : Fp) : (bds 32 (x.val : Int)).reverse = (bds 32 (y.val : Int)).reverse ↔ x = y := by
  have bd : ∀ z : Fp, 0 ≤ (z.val : Int) ∧ (z.val : Int) < R256 := fun z => ⟨Int.natCast_nonneg _, by have := z.isLt; have := pI_lt; rw [pI_pN] at this; omega⟩
  constructor
  · intro h
    have h1 := congrArg (fun l => bal l.reverse) h
    simp only [List.reverse_reverse] at h1
    rw [bal_B32 (bd x).1 (bd x).2, bal_B32 (bd y).1 (bd y).2] at h1
    exact fp_ext h1
  · rintro rfl; rfl
theorem rev_len (A : Int) : (bds 32 A).reverse.length = 32 := by rw [List.length_reverse, bds_length]
theorem rev_bd (A : Int) : ∀ x ∈ (bds 32 A).reverse, 0 ≤ x ∧ x < 256 := fun x hx => bds_bd 32 A x (List.mem_reverse.1 hx)


theorem errorsNew_any (d : ByteArray) (w : World) : Calls Try.prog 42 #[.string d] w fun e w' => (∃ t u, e = .returned (.iface t u)) ∧ Ext w w' := by
  go_enter Try.func42, Try.ntmps42
  go_wp2
  go_ret
  exact ⟨⟨_, _, rfl⟩, Ext.al _ _⟩
end Go.Proofs.Ytgdjmgcolipcnaa
/-
  What is proved here: how an element is read from bytes.
  Conditions: those of each theorem.
-/
namespace Go.Proofs.Ytgdjmgcolipcnaa
open Go Go.RowKit Ecp
set_option linter.unusedSimpArgs false
set_option linter.unusedVariables false

theorem Turned.ext_on {b o len : Nat} {u v : World} (h : Turned b o len u u) (hb : b < u.heap.size) (hE : Ext u v) : Turned b o len u v := Ext.turned h hb hE
theorem zero_sub_one : ((0 - 1 : Fp).val : Int) = pI - 1 := by decide +kernel
theorem be_rev {A : Int} (h0 : 0 ≤ A) (h1 : A < R256) : be (bds 32 A).reverse = A := by
  unfold be; rw [List.reverse_reverse, bal_B32 h0 h1]
theorem minus_one : be (bds 32 ((0 - 1 : Fp).val : Int)).reverse = pI - 1 := by rw [zero_sub_one]; exact be_rev (by decide) (by decide +kernel)
theorem bds_be (l : List Int) (hl : l.length = 32) (h : ∀ x ∈ l, 0 ≤ x ∧ x < 256) : bds 32 (be l) = l.reverse := by
  unfold be
  have := bds_bal l.reverse (fun x hx => h x (List.mem_reverse.1 hx))
  rw [List.length_reverse, hl] at this
  exact this

set_option maxHeartbeats 4000000 in
set_option maxRecDepth 100000 in
theorem SetBytes_pre (b o c p cap : Nat) (l : List Int) (hl : l.length = 32) (hbd : ∀ x ∈ l, 0 ≤ x ∧ x < 256) (hlt : be l < pI) (w : World) (hb : b < w.heap.size) (hc : c < w.heap.size) (hf : Free w b o 4) (h : Held .u8 w c p l) :
    Calls Try.prog 40 #[.pointer (some ⟨b, o, none⟩), .slice (some ⟨c, p, none⟩) 32 cap] w fun e w' => e = .returned (.tuple #[.pointer (some ⟨b, o, none⟩), .nilIface]) ∧ Turned b o 4 w w' ∧ Elt w' b o (zf (be l)) := by
  have HC : Hid (∀ (w : World) (c p cap c' p' : Nat) (k1 : Held .u8 w c p l) (k2 : Held .u8 w c' p' (bds 32 ((0 - 1 : Fp).val : Int)).reverse), Calls Try.prog 56 #[.slice (some ⟨c, p, none⟩) 32 cap, .slice (some ⟨c', p', none⟩) 32 32] w fun e w' => e = .returned (.int .i64 1) ∧ ∃ n, w' = w.drewN n) := Lib.hid (by
    intro w c p cap c' p' k1 k2
    have := Le_any c p cap c' p' 32 _ _ hl (rev_len _) hbd (rev_bd _) w k1 k2
    rw [minus_one, if_pos (by omega)] at this
    exact this)
  have H := Lib.hid (And.intro hb (And.intro hc (And.intro hf (And.intro h (And.intro hl hbd)))))
  clear hb hc hf h hl hbd hlt
  go_enter Try.func40, Try.ntmps40
  go_wp2_with (first
    | (refine wpList_copy_held rfl _ _ 50 50 rfl 5 Try.underlying50 (by kernel_rfl) w3.heap.size 0 32 32 c p cap l rfl rfl H.out.2.2.2.2.1 (((H4.out.held H.out.2.1 H.out.2.2.2.1).alloc (H4.out.lt H.out.2.1) _)) (Free.newWords rfl rfl) ?_; intro w5 hT hB; have H5 := Lib.hid (And.intro hT hB); clear hT hB)
    | (go_at_call 25; go_must (refine (Elm_One (w.heap.size + 2) 0 _ (by simp [size_alloc] <;> omega) (Free.newWords (by simp [size_alloc] <;> omega) rfl)).mono ?_); rintro e w1 ⟨rfl, hT, hE⟩; have H1 := Lib.hid (And.intro hT hE); clear hT hE)
    | (go_at_call 52; go_must (refine (Elm_Sub w.heap.size 0 (w.heap.size + 1) 0 (w.heap.size + 2) 0 0 1 w1 (H1.out.1.lt (by simp [size_alloc] <;> omega)) (H1.out.1.lt (by simp [size_alloc] <;> omega)) (H1.out.1.lt (by simp [size_alloc] <;> omega)) (Free.far (len' := 4) ((Free.alloc (Free.alloc (Free.newWords (w := w) rfl rfl) (by simp [size_alloc] <;> omega) _) (by simp [size_alloc] <;> omega) _)) H1.out.1 (by simp [size_alloc] <;> omega) (.inl (by omega))) (Elt.far (len := 4) ((Elt.alloc (Elt.zero (len := 4) _ (heap_at _ _ _ (by simp [size_alloc])) (by decide)) (by simp [size_alloc] <;> omega) _)) H1.out.1 (by simp [size_alloc] <;> omega) (.inl (by omega))) H1.out.2).mono ?_); rintro e w2 ⟨rfl, hT, hE⟩; have H2 := Lib.hid (And.intro hT hE); clear hT hE)
    | (go_at_call 55; go_must (refine (Bytes_any w.heap.size 0 (0 - 1) w2 (H2.out.1.lt (H1.out.1.lt (by simp [size_alloc] <;> omega))) H2.out.2).mono ?_); rintro e w3 ⟨rfl, hE, hs, hB⟩; have H3 := Lib.hid (And.intro (Ext.trans (Turned.ext_of_new (Turned.ext_of_new (((Ext.al w _).trans (Ext.al _ _)).trans (Ext.al _ _)) H1.out.1 (by omega)) H2.out.1 (Nat.le_refl _)) hE) (And.intro hs hB)); clear hE hs hB)
    | (go_at_call 56; go_must (refine (HC.out w3 c p cap w2.heap.size 0 (H3.out.1.held H.out.2.1 H.out.2.2.2.1) H3.out.2.2).mono ?_); rintro e w4 ⟨rfl, n4, rfl⟩; have H4 : Hid (Ext w (w3.drewN n4)) := Lib.hid (H3.out.1.trans ⟨⟨[], w3.drawn + n4⟩, by simp [ext, World.drewN]⟩))
    | (go_at_call 57; go_must (refine (Invert_any w3.heap.size 0 32 l H.out.2.2.2.2.1 w5 (H5.out.1.lt (by simp [size_alloc] <;> omega)) (Free.heldFree ((Free.newWords (w := w3) rfl rfl).drewN n4) H5.out.1 H5.out.2 (by rw [H.out.2.2.2.2.1]; exact Nat.le_refl _) (by simp [size_alloc] <;> omega)) H5.out.2).mono ?_); rintro e w6 ⟨rfl, hT, hB⟩; have H6 : Hid (Ext w w6 ∧ w3.heap.size < w6.heap.size ∧ Held .u8 w6 w3.heap.size 0 (bds 32 (be l))) := Lib.hid (And.intro (Turned.ext_of_new (Turned.ext_of_new (H4.out.trans (Ext.al _ _)) H5.out.1 H3.out.1.below.size) hT H3.out.1.below.size) (And.intro (hT.lt (H5.out.1.lt (by simp [size_alloc] <;> omega))) (by rw [bds_be l H.out.2.2.2.2.1 H.out.2.2.2.2.2]; exact hB))); clear hT hB)
    | (go_at_call 58; go_must (refine (p256FromBytes_any w6.heap.size 0 w3.heap.size 0 (be l) (be_bd l H.out.2.2.2.2.1 H.out.2.2.2.2.2).1 (be_bd l H.out.2.2.2.2.1 H.out.2.2.2.2.2).2 _ (by simp [size_alloc] <;> omega) (size_al' H6.out.2.1 _) (Free.newWords rfl rfl) (H6.out.2.2.alloc H6.out.2.1 _)).mono ?_); rintro e w7 ⟨rfl, hT, hB⟩; have H7 : Hid (Ext w w7 ∧ w6.heap.size < w7.heap.size ∧ Held .u64 w7 w6.heap.size 0 (qds 4 (be l))) := Lib.hid (And.intro (Turned.ext_of_new (H6.out.1.trans (Ext.al _ _)) hT H6.out.1.below.size) (And.intro (hT.lt (by simp [size_alloc] <;> omega)) hB)); clear hT hB)
    | (go_at_call 59; go_must (refine (p256ToMontgomery_any b o w6.heap.size 0 (be l) (be_bd l H.out.2.2.2.2.1 H.out.2.2.2.2.2).1 (be_bd l H.out.2.2.2.2.1 H.out.2.2.2.2.2).2 w7 (H7.out.1.lt H.out.1) H7.out.2.1 (H7.out.1.free H.out.1 H.out.2.2.1) H7.out.2.2).mono ?_); rintro e w8 ⟨rfl, hT, hB⟩; have H8 : Hid (Turned b o 4 w w8 ∧ Elt w8 b o (zf (be l))) := Lib.hid (And.intro (((Turned.refl b o 4 w).ext_on H.out.1 H7.out.1).trans hT) hB); clear hT hB))
  refine bodyPost_ret (v := .tuple #[.pointer (some ⟨b, o, none⟩), .nilIface]) (by simp [results, Try.results40, go_sem]) rfl ⟨rfl, H8.out⟩

set_option maxHeartbeats 4000000 in
set_option maxRecDepth 100000 in
theorem SetBytes_bad (b o c p cap : Nat) (l : List Int) (hl : l.length = 32) (hbd : ∀ x ∈ l, 0 ≤ x ∧ x < 256) (hlt : ¬ be l < pI) (w : World) (hb : b < w.heap.size) (hc : c < w.heap.size) (hf : Free w b o 4) (h : Held .u8 w c p l) :
    Calls Try.prog 40 #[.pointer (some ⟨b, o, none⟩), .slice (some ⟨c, p, none⟩) 32 cap] w fun e w' => (∃ t u, e = .returned (.tuple #[.pointer none, .iface t u])) ∧ Ext w w' := by
  have HC : Hid (∀ (w : World) (c p cap c' p' : Nat) (k1 : Held .u8 w c p l) (k2 : Held .u8 w c' p' (bds 32 ((0 - 1 : Fp).val : Int)).reverse), Calls Try.prog 56 #[.slice (some ⟨c, p, none⟩) 32 cap, .slice (some ⟨c', p', none⟩) 32 32] w fun e w' => e = .returned (.int .i64 0) ∧ ∃ n, w' = w.drewN n) := Lib.hid (by
    intro w c p cap c' p' k1 k2
    have := Le_any c p cap c' p' 32 _ _ hl (rev_len _) hbd (rev_bd _) w k1 k2
    rw [minus_one, if_neg (by omega)] at this
    exact this)
  have H := Lib.hid (And.intro hb (And.intro hc (And.intro hf (And.intro h (And.intro hl hbd)))))
  clear hb hc hf h hl hbd hlt
  go_enter Try.func40, Try.ntmps40
  go_wp2_with (first
    | (go_at_call 25; go_must (refine (Elm_One (w.heap.size + 2) 0 _ (by simp [size_alloc] <;> omega) (Free.newWords (by simp [size_alloc] <;> omega) rfl)).mono ?_); rintro e w1 ⟨rfl, hT, hE⟩; have H1 := Lib.hid (And.intro hT hE); clear hT hE)
    | (go_at_call 52; go_must (refine (Elm_Sub w.heap.size 0 (w.heap.size + 1) 0 (w.heap.size + 2) 0 0 1 w1 (H1.out.1.lt (by simp [size_alloc] <;> omega)) (H1.out.1.lt (by simp [size_alloc] <;> omega)) (H1.out.1.lt (by simp [size_alloc] <;> omega)) (Free.far (len' := 4) ((Free.alloc (Free.alloc (Free.newWords (w := w) rfl rfl) (by simp [size_alloc] <;> omega) _) (by simp [size_alloc] <;> omega) _)) H1.out.1 (by simp [size_alloc] <;> omega) (.inl (by omega))) (Elt.far (len := 4) ((Elt.alloc (Elt.zero (len := 4) _ (heap_at _ _ _ (by simp [size_alloc])) (by decide)) (by simp [size_alloc] <;> omega) _)) H1.out.1 (by simp [size_alloc] <;> omega) (.inl (by omega))) H1.out.2).mono ?_); rintro e w2 ⟨rfl, hT, hE⟩; have H2 := Lib.hid (And.intro hT hE); clear hT hE)
    | (go_at_call 55; go_must (refine (Bytes_any w.heap.size 0 (0 - 1) w2 (H2.out.1.lt (H1.out.1.lt (by simp [size_alloc] <;> omega))) H2.out.2).mono ?_); rintro e w3 ⟨rfl, hE, hs, hB⟩; have H3 := Lib.hid (And.intro (Ext.trans (Turned.ext_of_new (Turned.ext_of_new (((Ext.al w _).trans (Ext.al _ _)).trans (Ext.al _ _)) H1.out.1 (by omega)) H2.out.1 (Nat.le_refl _)) hE) (And.intro hs hB)); clear hE hs hB)
    | (go_at_call 56; go_must (refine (HC.out w3 c p cap w2.heap.size 0 (H3.out.1.held H.out.2.1 H.out.2.2.2.1) H3.out.2.2).mono ?_); rintro e w4 ⟨rfl, n4, rfl⟩; have H4 : Hid (Ext w (w3.drewN n4)) := Lib.hid (H3.out.1.trans ⟨⟨[], w3.drawn + n4⟩, by simp [ext, World.drewN]⟩))
    | (go_at_call 42; go_must (refine (errorsNew_any _ _).mono ?_); rintro e w5 ⟨⟨t, u, rfl⟩, hE⟩; have H5 := Lib.hid hE; clear hE))
  refine bodyPost_ret (v := .tuple #[.pointer none, .iface t u]) (by simp [results, Try.results40, go_sem]) rfl ⟨⟨t, u, rfl⟩, H4.out.trans H5.out⟩

def bB : List Int := [90, 198, 53, 216, 170, 58, 147, 231, 179, 235, 189, 85, 118, 152, 134, 188, 101, 29, 6, 176, 204, 83, 176, 246, 59, 206, 60, 62, 39, 210, 96, 75]
theorem b_bytes : be bB = (cB.val : Int) := by decide +kernel
theorem bB_bd : ∀ x ∈ bB, 0 ≤ x ∧ x < 256 := by decide +kernel
theorem Held.row {k : IntKind} {w : World} {b : Nat} {l : List Int} (t : TypeId) (fr : Nat × Nat) (h : w.heap[b]? = some (.cells (l.map (Value.int k)).toArray t fr)) : Held k w b 0 l := by
  intro i x hi
  simp [World.cell?, h, hi]
set_option maxHeartbeats 4000000 in
set_option maxRecDepth 100000 in
theorem p256B_any (w : World) : Calls Try.prog 51 #[] w fun e w' => ∃ b, e = .returned (.pointer (some ⟨b, 0, none⟩)) ∧ w.heap.size ≤ b ∧ b < w'.heap.size ∧ Ext w w' ∧ Free w' b 0 4 ∧ Elt w' b 0 cB := by
  go_enter Try.func51, Try.ntmps51
  go_wp2_with (go_at_call 40; go_must (refine (SetBytes_pre w.heap.size 0 (w.heap.size + 1) 0 32 bB rfl bB_bd (by rw [b_bytes]; decide +kernel) _ (by simp [size_alloc] <;> omega) (by simp [size_alloc] <;> omega) (Free.alloc (Free.newWords rfl rfl) (by simp [size_alloc] <;> omega) _) (Held.row (l := bB) _ _ (heap_at _ _ _ (by simp [size_alloc])))).mono ?_); rintro e w1 ⟨rfl, hT, hE⟩; have H1 := Lib.hid (And.intro hT hE); clear hT hE)
  refine bodyPost_ret (v := .pointer (some ⟨w.heap.size, 0, none⟩)) (by simp [results, Try.results51, go_sem]) rfl ⟨w.heap.size, rfl, Nat.le_refl _, H1.out.1.lt (by simp [size_alloc] <;> omega), Turned.ext_of_new ((Ext.al w _).trans (Ext.al _ _)) H1.out.1 (Nat.le_refl _), Free.turned (Free.alloc (Free.newWords rfl rfl) (by simp [size_alloc] <;> omega) _) H1.out.1 H1.out.2 (by simp [size_alloc] <;> omega), ?_⟩
  have h := H1.out.2
  rw [b_bytes, zf_nat] at h
  exact h
end Go.Proofs.Ytgdjmgcolipcnaa
