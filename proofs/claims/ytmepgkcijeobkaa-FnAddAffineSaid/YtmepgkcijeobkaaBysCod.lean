/-
  What is proved here: what telling a point's bytes returns.
  Conditions: those of each theorem.
-/
import Derived.Test.YtmepgkcijeobkaaProg
import Derived.Test.YtmepgkcijeobkaaEleElo
import Derived.Test.YtmepgkcijeobkaaInv
import Derived.Test.YtmepgkcijeobkaaHpt
import Derived.Test.YtmepgkcijeobkaaClonePrjA
import Derived.ArgAppend
import Derived.Deep.OwnRows
import Derived.WalkKit
import Derived.WalkSpells
import Derived.Outline
import Derived.Handy
import Derived.ProofKit
import Derived.Deep.QuietTactic
import Derived.BigQuiet
import Derived.Lib.Hide
import Derived.OpenShut
namespace Go.Proofs.Ytmepgkcijeobkaa
open Go Go.RowKit Ecp
set_option linter.unusedSimpArgs false
set_option linter.unusedVariables false

theorem zero_rev : (bds 32 ((0 : Fp).val : Int)).reverse = List.replicate 32 0 := by decide +kernel
/-- An append where there is room. -/
theorem wpList_append_held {P : Program} {w : World} {ops : Array Oper} {rest : List Oper} {o : Oper} {a : Act} {Q : Exit → Act → World → Prop} (hgd : o.guard = none) (s x : Operand) (t : TypeId)
    (ho : o.op = .call { callee := .builtin .append, args := #[s, x], argTypes := #[t, t] }) (e : TypeId) (i : TypeInfo) (ht : P.underlying t = some (.slice e)) (hi : P.info? e = some i) (hi1 : i.size = 1)
    {k : IntKind} (b off n cap c p m mCap : Nat) (xs : List Int) (hs : a.eval s = .slice (some ⟨b, off, none⟩) n cap) (hx : a.eval x = .slice (some ⟨c, p, none⟩) m mCap) (hl : xs.length = m) (hh : Held k w c p xs) (hroom : n + m ≤ cap) (hf : Free w b (off + n) m)
    (h : ∀ w', Turned b (off + n) m w w' → Held k w' b (off + n) xs → wpList P ops Q rest (a.put o.dst (.slice (some ⟨b, off, none⟩) (n + m) cap)) w') : wpList P ops Q (o :: rest) a w := by
  refine wpList_plain hgd fun K hK => ?_
  have hlen : (xs.map (Value.int k)).length = m := by simp [hl]
  have hrun := run_append_room_cells (P := P) w t o.type e i ht hi b off n cap ⟨c, p, none⟩ m mCap (xs.map (Value.int k)) (by rw [hlen, hi1, Nat.mul_one]) (fun j v hj => by
    rw [List.getElem?_map] at hj
    obtain ⟨x, hx1, rfl⟩ := Option.map_eq_some_iff.1 hj
    rw [add_ptr]
    exact hh j x hx1) (fun u hu => by
    obtain ⟨x, _, rfl⟩ := List.mem_map.1 hu
    rfl) hroom (fun j hj => by rw [hi1, Nat.mul_one]; obtain ⟨⟨u, hu'⟩, _⟩ := hf j (by omega); rw [hu']; rfl) (fun j hj => by rw [hi1, Nat.mul_one]; exact (hf j (by omega)).2)
  obtain ⟨hT, hc⟩ := setCells_turned (xs.map (Value.int k)) w b (off + n) (fun j hj => by obtain ⟨⟨u, hu'⟩, _⟩ := hf j (by omega); rw [hu']; rfl)
  rw [hlen] at hT
  rw [hi1, Nat.mul_one] at hrun
  unfold Oper.wp execOp
  simp only [ho, resolve, invoke, builtin, Sem.run_bind, Sem.run_pure, Result.andThen_ok, List.map_toArray, List.map_cons, List.map_nil, hs, hx, hrun]
  exact hK _ _ (h _ hT fun j x hj => hc j _ (by rw [List.getElem?_map, hj]; rfl))
theorem held_made {w : World} {b : Nat} {t : TypeId} {fr : Nat × Nat} (h : w.heap[b]? = some (.cells (madeCells #[Value.int .u8 0] 32) t fr)) : Held .u8 w b 0 (bds 32 ((0 : Fp).val : Int)).reverse := by
  rw [zero_rev]
  refine Held.row (l := List.replicate 32 0) t fr ?_
  rw [h, show madeCells #[Value.int .u8 0] 32 = ((List.replicate 32 (0 : Int)).map (Value.int .u8)).toArray by kernel_rfl]
set_option maxHeartbeats 1000000 in
set_option maxRecDepth 100000 in
theorem IsZero_any (b o : Nat) (x : Fp) (w : World) (hb : b < w.heap.size) (h : Elt w b o x) : Calls Try.prog 108 #[.pointer (some ⟨b, o, none⟩)] w fun e w' => e = .returned (.int .i64 (if x = 0 then 1 else 0)) ∧ Ext w w' := by
  obtain ⟨i0, hi, hz0, hz1, hz2⟩ := info_parts info_u8
  obtain ⟨r, hr⟩ : ∃ r : Int, r = if x = 0 then 1 else 0 := ⟨_, rfl⟩
  rw [← hr]
  have H := Lib.hid (And.intro hb (And.intro h hr))
  clear hb h hr
  have hc := fun (w : World) (c p c' p' : Nat) (k1 : Held .u8 w c p (bds 32 (x.val : Int)).reverse) (k2 : Held .u8 w c' p' (bds 32 ((0 : Fp).val : Int)).reverse) => Ctc_any c p 32 c' p' 32 _ _ (rev_len _) (rev_len _) (rev_bd _) (rev_bd _) w k1 k2
  have HC : Hid (∀ (w : World) (c p c' p' : Nat) (k1 : Held .u8 w c p (bds 32 (x.val : Int)).reverse) (k2 : Held .u8 w c' p' (bds 32 ((0 : Fp).val : Int)).reverse), Calls Try.prog 126 #[.slice (some ⟨c, p, none⟩) 32 32, .slice (some ⟨c', p', none⟩) 32 32] w fun e w' => e = .returned (.int .i64 r) ∧ ∃ n, w' = w.drewN n) := Lib.hid (by
    intro w c p c' p' k1 k2
    have := hc w c p c' p' k1 k2
    simp only [bds_rev_eq] at this
    rw [← H.out.2.2] at this
    exact this)
  clear hc
  go_enter Try.func108, Try.ntmps108
  go_wp2_with (first | (at_make; refine wpList_make_row _ rfl _ _ 22 rfl 5 i0 (.int .u8 0) Try.underlying22 hi hz0 hz1 rfl _ _ 32 rfl rfl (by rw [hz2]; decide) (by decide) ?_) | (go_at_call 91; go_must (refine (Bytes_any b o x (w.alloc (.cells (madeCells #[Value.int .u8 0] 32) 5)) (size_al H.out.1 _) (H.out.2.1.alloc H.out.1 _)).mono ?_); rintro e w1 ⟨rfl, hE, hs, hB⟩; have H1 := Lib.hid (And.intro hE (And.intro hs hB)); clear hE hs hB) | (go_at_call 126; go_must (refine (HC.out w1 (w.heap.size + 1) 0 w.heap.size 0 (by have := H1.out.2.2; simpa [size_alloc] using this) (H1.out.1.held (by simp [size_alloc]) (held_made (heap_at w _ _ rfl)))).mono ?_); rintro e w3 ⟨rfl, n3, rfl⟩))
  refine bodyPost_ret (v := .int .i64 r) (by simp [results, Try.results108, go_sem]) rfl ⟨rfl, ?_⟩
  exact ((Ext.al w _).trans H1.out.1).trans ⟨⟨[], w1.drawn + n3⟩, by simp [ext, World.drewN]⟩
theorem Held.app {k : IntKind} {w : World} {b o : Nat} {xs ys : List Int} (h : Held k w b o xs) (h2 : Held k w b (o + xs.length) ys) : Held k w b o (xs ++ ys) := fun i x hi => by
  by_cases hl : i < xs.length
  · rw [List.getElem?_append_left hl] at hi
    exact h i x hi
  · rw [List.getElem?_append_right (by omega)] at hi
    have := h2 _ _ hi
    rwa [show o + xs.length + (i - xs.length) = o + i by omega] at this
/-- What is told of a point. -/
def Bx (x : Fp) : List Int := (bds 32 (x.val : Int)).reverse
theorem Bx_len (x : Fp) : (Bx x).length = 32 := rev_len _
def wrL : Pt → List Int
  | .far => [0]
  | .aff x y => [4] ++ Bx x ++ Bx y
def shL : Pt → List Int
  | .far => [0]
  | .aff x y => [2 + (y.val : Int) % 2] ++ Bx x
theorem held_one {w : World} {b : Nat} {v : Int} {t : TypeId} {fr : Nat × Nat} (h : w.heap[b]? = some (.cells #[.int .u8 v] t fr)) : Held .u8 w b 0 [v] := Held.row (l := [v]) t fr h
set_option maxHeartbeats 1000000 in
set_option maxRecDepth 100000 in
theorem bytes_far (b c : Nat) (X Y Z : Fp) (w : World) (hb : b < w.heap.size) (hc : c < w.heap.size) (hn : b ≠ c) (hf : Free w c 0 65) (hp : Pnt w b 0 X Y Z) (hz : Z = 0) : Calls Try.prog 93 #[.pointer (some ⟨b, 0, none⟩), .pointer (some ⟨c, 0, none⟩)] w fun e w' => e = .returned (.slice (some ⟨c, 0, none⟩) 1 65) ∧ Turned c 0 65 w w' ∧ Held .u8 w' c 0 [0] := by
  have H := Lib.hid (And.intro hb (And.intro hc (And.intro hn (And.intro hf (And.intro hp.1 (And.intro hp.2.1 hp.2.2))))))
  obtain ⟨i0, hi, hz0, hz1, hz2⟩ := info_parts info_u8
  clear hb hc hn hf hp
  go_enter Try.func93, Try.ntmps93
  go_wp2_with (first | (go_at_call 108; go_must (refine (IsZero_any b 8 Z w H.out.1 H.out.2.2.2.2.2.2).mono ?_); rintro e w1 ⟨he, hE⟩; rw [if_pos hz] at he; subst he; have H1 := Lib.hid hE; clear hE) | (at_builtin; refine wpList_append_held rfl _ _ 22 rfl 5 i0 Try.underlying22 hi hz1 (k := .u8) c 0 0 65 w1.heap.size 0 1 1 [0] rfl rfl rfl (held_one (heap_at w1 _ _ rfl)) (by decide) (((H1.out.free H.out.2.1 H.out.2.2.2.1).sub (by decide) (by decide)).alloc (H1.out.lt H.out.2.1) _) ?_; intro w2 hT hh; have H2 := Lib.hid (And.intro hT hh); clear hT hh))
  have hT : Turned c 0 65 w w2 := (((Turned.refl c 0 65 w).ext_on H.out.2.1 (H1.out.trans (Ext.al w1 _)))).trans (H2.out.1.part (by decide) (by decide))
  exact bodyPost_ret (v := .slice (some ⟨c, 0, none⟩) 1 65) (by simp [results, Try.results93, go_sem]) rfl ⟨rfl, hT, H2.out.2⟩
set_option maxHeartbeats 1000000 in
set_option maxRecDepth 100000 in
theorem bytesCompressed_far (b c : Nat) (X Y Z : Fp) (w : World) (hb : b < w.heap.size) (hc : c < w.heap.size) (hn : b ≠ c) (hf : Free w c 0 33) (hp : Pnt w b 0 X Y Z) (hz : Z = 0) : Calls Try.prog 101 #[.pointer (some ⟨b, 0, none⟩), .pointer (some ⟨c, 0, none⟩)] w fun e w' => e = .returned (.slice (some ⟨c, 0, none⟩) 1 33) ∧ Turned c 0 33 w w' ∧ Held .u8 w' c 0 [0] := by
  have H := Lib.hid (And.intro hb (And.intro hc (And.intro hn (And.intro hf (And.intro hp.1 (And.intro hp.2.1 hp.2.2))))))
  obtain ⟨i0, hi, hz0, hz1, hz2⟩ := info_parts info_u8
  clear hb hc hn hf hp
  go_enter Try.func101, Try.ntmps101
  go_wp2_with (first | (go_at_call 108; go_must (refine (IsZero_any b 8 Z w H.out.1 H.out.2.2.2.2.2.2).mono ?_); rintro e w1 ⟨he, hE⟩; rw [if_pos hz] at he; subst he; have H1 := Lib.hid hE; clear hE) | (at_builtin; refine wpList_append_held rfl _ _ 22 rfl 5 i0 Try.underlying22 hi hz1 (k := .u8) c 0 0 33 w1.heap.size 0 1 1 [0] rfl rfl rfl (held_one (heap_at w1 _ _ rfl)) (by decide) (((H1.out.free H.out.2.1 H.out.2.2.2.1).sub (by decide) (by decide)).alloc (H1.out.lt H.out.2.1) _) ?_; intro w2 hT hh; have H2 := Lib.hid (And.intro hT hh); clear hT hh))
  have hT : Turned c 0 33 w w2 := (((Turned.refl c 0 33 w).ext_on H.out.2.1 (H1.out.trans (Ext.al w1 _)))).trans (H2.out.1.part (by decide) (by decide))
  exact bodyPost_ret (v := .slice (some ⟨c, 0, none⟩) 1 33) (by simp [results, Try.results101, go_sem]) rfl ⟨rfl, hT, H2.out.2⟩
set_option maxHeartbeats 1000000 in
set_option maxRecDepth 100000 in
theorem bytes_aff (b c : Nat) (X Y Z : Fp) (w : World) (hb : b < w.heap.size) (hc : c < w.heap.size) (hn : b ≠ c) (hf : Free w c 0 65) (hp : Pnt w b 0 X Y Z) (hz : ¬ Z = 0) : Calls Try.prog 93 #[.pointer (some ⟨b, 0, none⟩), .pointer (some ⟨c, 0, none⟩)] w fun e w' => e = .returned (.slice (some ⟨c, 0, none⟩) 65 65) ∧ Turned c 0 65 w w' ∧ Held .u8 w' c 0 ([4] ++ Bx (X * finv Z) ++ Bx (Y * finv Z)) := by
  have H := Lib.hid (And.intro hb (And.intro hc (And.intro hn (And.intro hf (And.intro hp.1 (And.intro hp.2.1 hp.2.2))))))
  obtain ⟨i0, hi, hz0, hz1, hz2⟩ := info_parts info_u8
  clear hb hc hn hf hp
  go_enter Try.func93, Try.ntmps93
  go_wp2_with (first | (go_at_call 108; go_must (refine (IsZero_any b 8 Z w H.out.1 H.out.2.2.2.2.2.2).mono ?_); rintro e w1 ⟨he, hE⟩; rw [if_neg hz] at he; subst he; have H1 := Lib.hid hE; clear hE) | (go_at_call 109; go_must (refine (Invert_any' w1.heap.size 0 b 8 Z 0 (w1.alloc (.cells #[.int .u64 0, .int .u64 0, .int .u64 0, .int .u64 0] 111)) (by simp [size_alloc]) (size_al (H1.out.lt H.out.1) _) (Free.newWords (cs := #[.int .u64 0, .int .u64 0, .int .u64 0, .int .u64 0]) rfl rfl) (Elt.zero (len := 4) _ (heap_at w1 _ _ rfl) (by decide)) ((H1.out.elt H.out.1 H.out.2.2.2.2.2.2).alloc (H1.out.lt H.out.1) _)).mono ?_); rintro e w2 ⟨rfl, hT, hE⟩; have hE2 : Ext w w2 := H1.out.trans (Turned.ext_of_new (Ext.al w1 _) hT (Nat.le_refl _)); have hn2 : w1.heap.size < w2.heap.size := hT.lt (by simp [size_alloc]); have H2 := Lib.hid (And.intro hE2 (And.intro hn2 hE)); clear hT hE hE2 hn2) | (go_at_call 103; first | ((with_reducible refine (Elm_Mul w2.heap.size 0 b 0 w1.heap.size 0 X (finv Z) (w2.alloc (.cells #[.int .u64 0, .int .u64 0, .int .u64 0, .int .u64 0] 111)) (by simp [size_alloc]) (size_al (H2.out.1.lt H.out.1) _) (size_al H2.out.2.1 _) (Free.newWords (cs := #[.int .u64 0, .int .u64 0, .int .u64 0, .int .u64 0]) rfl rfl) ((H2.out.1.elt H.out.1 H.out.2.2.2.2.1).alloc (H2.out.1.lt H.out.1) _) (H2.out.2.2.alloc H2.out.2.1 _)).mono ?_); rintro e w3 ⟨rfl, hT, hE⟩; have hEE : Ext w w3 := H2.out.1.trans (Turned.ext_of_new (Ext.al w2 _) hT (Nat.le_refl _)); have hl0 : w1.heap.size < w3.heap.size := hT.lt (size_al H2.out.2.1 _); have he0 : Elt w3 w1.heap.size 0 (finv Z) := (H2.out.2.2.alloc H2.out.2.1 _).far hT (size_al H2.out.2.1 _) (.inl (Nat.ne_of_lt H2.out.2.1)); have hln : w2.heap.size < w3.heap.size := hT.lt (by simp [size_alloc]); have H3 := Lib.hid (And.intro hEE (And.intro hl0 (And.intro he0 (And.intro hln hE)))); clear hEE hl0 he0 hln hE; clear hT) | ((with_reducible refine (Elm_Mul w3.heap.size 0 b 4 w1.heap.size 0 Y (finv Z) (w3.alloc (.cells #[.int .u64 0, .int .u64 0, .int .u64 0, .int .u64 0] 111)) (by simp [size_alloc]) (size_al (H3.out.1.lt H.out.1) _) (size_al H3.out.2.1 _) (Free.newWords (cs := #[.int .u64 0, .int .u64 0, .int .u64 0, .int .u64 0]) rfl rfl) ((H3.out.1.elt H.out.1 H.out.2.2.2.2.2.1).alloc (H3.out.1.lt H.out.1) _) (H3.out.2.2.1.alloc H3.out.2.1 _)).mono ?_); rintro e w4 ⟨rfl, hT, hE⟩; have hEE : Ext w w4 := H3.out.1.trans (Turned.ext_of_new (Ext.al w3 _) hT (Nat.le_refl _)); have hl0 : w1.heap.size < w4.heap.size := hT.lt (size_al H3.out.2.1 _); have he0 : Elt w4 w1.heap.size 0 (finv Z) := (H3.out.2.2.1.alloc H3.out.2.1 _).far hT (size_al H3.out.2.1 _) (.inl (Nat.ne_of_lt H3.out.2.1)); have hln : w3.heap.size < w4.heap.size := hT.lt (by simp [size_alloc]); have hl1 : w2.heap.size < w4.heap.size := hT.lt (size_al H3.out.2.2.2.1 _); have he1 : Elt w4 w2.heap.size 0 (X * finv Z) := (H3.out.2.2.2.2.alloc H3.out.2.2.2.1 _).far hT (size_al H3.out.2.2.2.1 _) (.inl (Nat.ne_of_lt H3.out.2.2.2.1)); have hc2 : c < w2.heap.size := H2.out.1.lt H.out.2.1; have hc3 : c < w3.heap.size := H3.out.1.lt H.out.2.1; have H4 := Lib.hid (And.intro hEE (And.intro hl1 (And.intro he1 (And.intro hln (And.intro hE (And.intro hc2 hc3)))))); clear hEE hl0 he0 hln hE hl1 he1 hc2 hc3; clear hT)) | (go_at_call 91; first | ((with_reducible refine (Bytes_any w2.heap.size 0 (X * finv Z) w5 K5.out.2.2.2.2.1 K5.out.2.2.1).mono ?_); rintro e w6 ⟨rfl, hE, hs, hB⟩; have H6 := Lib.hid (And.intro hE (And.intro hs hB)); clear hE hs hB) | ((with_reducible refine (Bytes_any w3.heap.size 0 (Y * finv Z) w7 (H7.out.1.lt (H6.out.1.lt K5.out.2.2.2.2.2.1)) ((H6.out.1.elt K5.out.2.2.2.2.2.1 K5.out.2.2.2.1).far H7.out.1 (H6.out.1.lt K5.out.2.2.2.2.2.1) (.inl (Nat.ne_of_gt H4.out.2.2.2.2.2.2)))).mono ?_); rintro e w8 ⟨rfl, hE, hs, hB⟩; have H8 := Lib.hid (And.intro hE (And.intro hs hB)); clear hE hs hB)) | (at_builtin; refine wpList_append_held rfl _ _ 22 rfl 5 i0 Try.underlying22 hi hz1 (k := .u8) c 0 0 65 w4.heap.size 0 1 1 [4] rfl rfl rfl (held_one (heap_at w4 _ _ rfl)) (by decide) (((H4.out.1.free H.out.2.1 H.out.2.2.2.1).sub (by decide) (by decide)).alloc (H4.out.1.lt H.out.2.1) _) ?_; intro w5 hT hh; have H5 := Lib.hid (And.intro hT hh); clear hT hh; have hc4 : c < w4.heap.size := H4.out.1.lt H.out.2.1; have hf5 : Free w5 c 1 64 := ((((H4.out.1.free H.out.2.1 H.out.2.2.2.1).sub (by decide) (by decide)).alloc hc4 _).far H5.out.1 (size_al hc4 _) (.inr (.inr (by decide)))); have ha5 : Elt w5 w2.heap.size 0 (X * finv Z) := (H4.out.2.2.1.alloc H4.out.2.1 _).far H5.out.1 (size_al H4.out.2.1 _) (.inl (Nat.ne_of_gt H4.out.2.2.2.2.2.1)); have hb5 : Elt w5 w3.heap.size 0 (Y * finv Z) := (H4.out.2.2.2.2.1.alloc H4.out.2.2.2.1 _).far H5.out.1 (size_al H4.out.2.2.2.1 _) (.inl (Nat.ne_of_gt H4.out.2.2.2.2.2.2)); have hT5 : Turned c 0 65 w w5 := (((Turned.refl c 0 65 w).ext_on H.out.2.1 (H4.out.1.trans (Ext.al w4 _)))).trans (H5.out.1.part (by decide) (by decide)); have K5 := Lib.hid (And.intro hT5 (And.intro hf5 (And.intro ha5 (And.intro hb5 (And.intro (show w2.heap.size < w5.heap.size from H5.out.1.lt (size_al H4.out.2.1 _)) (And.intro (show w3.heap.size < w5.heap.size from H5.out.1.lt (size_al H4.out.2.2.2.1 _)) (show c < w5.heap.size from H5.out.1.lt (size_al hc4 _)))))))); have F5 := Lib.hid (Free.heldFree (((H4.out.1.free H.out.2.1 H.out.2.2.2.1).sub (o' := 0) (len' := 1) (by decide) (by decide)).alloc hc4 _) H5.out.1 H5.out.2 (by decide) (size_al hc4 _)); clear hc4 hf5 ha5 hb5 hT5) | (at_builtin; refine wpList_append_held rfl _ _ 22 rfl 5 i0 Try.underlying22 hi hz1 (k := .u8) c 0 1 65 w5.heap.size 0 32 32 _ rfl rfl (rev_len _) H6.out.2.2 (by decide) ((H6.out.1.free K5.out.2.2.2.2.2.2 K5.out.2.1).sub (by decide) (by decide)) ?_; intro w7 hT hh; have H7 := Lib.hid (And.intro hT hh); clear hT hh) | (at_builtin; refine wpList_append_held rfl _ _ 22 rfl 5 i0 Try.underlying22 hi hz1 (k := .u8) c 0 33 65 w7.heap.size 0 32 32 _ rfl rfl (rev_len _) H8.out.2.2 (by decide) (H8.out.1.free (H7.out.1.lt (H6.out.1.lt K5.out.2.2.2.2.2.2)) (((H6.out.1.free K5.out.2.2.2.2.2.2 K5.out.2.1).sub (o' := 33) (len' := 32) (by decide) (by decide)).far H7.out.1 (H6.out.1.lt K5.out.2.2.2.2.2.2) (.inr (.inr (by decide))))) ?_; intro w9 hT hh; have H9 := Lib.hid (And.intro hT hh); clear hT hh))
  have l5 := K5.out.2.2.2.2.2.2
  have l6 := H6.out.1.lt l5
  have l7 := H7.out.1.lt l6
  have l8 := H8.out.1.lt l7
  have h4 : Held .u8 w9 c 0 [4] := Held.far (H8.out.1.held l7 (Held.far (H6.out.1.held l5 H5.out.2) H7.out.1 l6 (.inr (.inl (by decide))))) H9.out.1 l8 (.inr (.inl (by decide)))
  have hx : Held .u8 w9 c 1 (Bx (X * finv Z)) := Held.far (H8.out.1.held l7 H7.out.2) H9.out.1 l8 (.inr (.inl (by rw [Bx_len]; decide)))
  have hT : Turned c 0 65 w w9 := ((((K5.out.1.trans ((Turned.refl _ _ _ _).ext_on l5 H6.out.1)).trans (H7.out.1.part (by decide) (by decide))).trans ((Turned.refl _ _ _ _).ext_on l7 H8.out.1))).trans (H9.out.1.part (by decide) (by decide))
  exact bodyPost_ret (v := .slice (some ⟨c, 0, none⟩) 65 65) (by simp [results, Try.results93, go_sem]) rfl ⟨rfl, hT, Held.app (Held.app h4 hx) (by rw [List.length_append, Bx_len]; exact H9.out.2)⟩
theorem set_one {w : World} {c : Nat} {o : Nat} (v : Value) (hf : Free w c o 1) : Turned c o 1 w (w.setCell ⟨c, o, none⟩ v) ∧ (w.setCell ⟨c, o, none⟩ v).cell? ⟨c, o, none⟩ = some v := by
  obtain ⟨hT, hc⟩ := setCells_turned [v] w c o (fun j hj => by obtain ⟨⟨u, hu⟩, _⟩ := hf j hj; rw [hu]; rfl)
  exact ⟨hT, hc 0 v rfl⟩
theorem low_byte (y : Fp) : (Bx y)[31]? = some ((y.val : Int) % 256) := by
  unfold Bx
  have hl : (bds 32 (y.val : Int)).length = 32 := bds_length _ _
  rw [List.getElem?_reverse (by omega), hl]
  rfl
set_option maxHeartbeats 1000000 in
set_option maxRecDepth 100000 in
theorem bytesCompressed_0 (b c : Nat) (X Y Z : Fp) (w : World) (hb : b < w.heap.size) (hc : c < w.heap.size) (hn : b ≠ c) (hf : Free w c 0 33) (hp : Pnt w b 0 X Y Z) (hz : ¬ Z = 0) (v : Int) (hv : (Bx (Y * finv Z))[31]? = some v) (ha : bits BinOp.and IntKind.u8 v 1 = 0) : Calls Try.prog 101 #[.pointer (some ⟨b, 0, none⟩), .pointer (some ⟨c, 0, none⟩)] w fun e w' => e = .returned (.slice (some ⟨c, 0, none⟩) 33 33) ∧ Turned c 0 33 w w' ∧ Held .u8 w' c 0 ([2] ++ Bx (X * finv Z)) := by
  have H := Lib.hid (And.intro hb (And.intro hc (And.intro hn (And.intro hf (And.intro hp.1 (And.intro hp.2.1 hp.2.2))))))
  obtain ⟨i0, hi, hz0, hz1, hz2⟩ := info_parts info_u8
  clear hb hc hn hf hp
  go_enter Try.func101, Try.ntmps101
  go_wp2_with (first | (go_at_call 108; go_must (refine (IsZero_any b 8 Z w H.out.1 H.out.2.2.2.2.2.2).mono ?_); rintro e w1 ⟨he, hE⟩; rw [if_neg hz] at he; subst he; have H1 := Lib.hid hE; clear hE) | (go_at_call 109; go_must (refine (Invert_any' w1.heap.size 0 b 8 Z 0 (w1.alloc (.cells #[.int .u64 0, .int .u64 0, .int .u64 0, .int .u64 0] 111)) (by simp [size_alloc]) (size_al (H1.out.lt H.out.1) _) (Free.newWords (cs := #[.int .u64 0, .int .u64 0, .int .u64 0, .int .u64 0]) rfl rfl) (Elt.zero (len := 4) _ (heap_at w1 _ _ rfl) (by decide)) ((H1.out.elt H.out.1 H.out.2.2.2.2.2.2).alloc (H1.out.lt H.out.1) _)).mono ?_); rintro e w2 ⟨rfl, hT, hE⟩; have hE2 : Ext w w2 := H1.out.trans (Turned.ext_of_new (Ext.al w1 _) hT (Nat.le_refl _)); have hn2 : w1.heap.size < w2.heap.size := hT.lt (by simp [size_alloc]); have H2 := Lib.hid (And.intro hE2 (And.intro hn2 hE)); clear hT hE hE2 hn2) | (go_at_call 103; first | ((with_reducible refine (Elm_Mul w2.heap.size 0 b 0 w1.heap.size 0 X (finv Z) (w2.alloc (.cells #[.int .u64 0, .int .u64 0, .int .u64 0, .int .u64 0] 111)) (by simp [size_alloc]) (size_al (H2.out.1.lt H.out.1) _) (size_al H2.out.2.1 _) (Free.newWords (cs := #[.int .u64 0, .int .u64 0, .int .u64 0, .int .u64 0]) rfl rfl) ((H2.out.1.elt H.out.1 H.out.2.2.2.2.1).alloc (H2.out.1.lt H.out.1) _) (H2.out.2.2.alloc H2.out.2.1 _)).mono ?_); rintro e w3 ⟨rfl, hT, hE⟩; have hEE : Ext w w3 := H2.out.1.trans (Turned.ext_of_new (Ext.al w2 _) hT (Nat.le_refl _)); have hl0 : w1.heap.size < w3.heap.size := hT.lt (size_al H2.out.2.1 _); have he0 : Elt w3 w1.heap.size 0 (finv Z) := (H2.out.2.2.alloc H2.out.2.1 _).far hT (size_al H2.out.2.1 _) (.inl (Nat.ne_of_lt H2.out.2.1)); have hln : w2.heap.size < w3.heap.size := hT.lt (by simp [size_alloc]); have H3 := Lib.hid (And.intro hEE (And.intro hl0 (And.intro he0 (And.intro hln hE)))); clear hEE hl0 he0 hln hE; clear hT) | ((with_reducible refine (Elm_Mul w3.heap.size 0 b 4 w1.heap.size 0 Y (finv Z) (w3.alloc (.cells #[.int .u64 0, .int .u64 0, .int .u64 0, .int .u64 0] 111)) (by simp [size_alloc]) (size_al (H3.out.1.lt H.out.1) _) (size_al H3.out.2.1 _) (Free.newWords (cs := #[.int .u64 0, .int .u64 0, .int .u64 0, .int .u64 0]) rfl rfl) ((H3.out.1.elt H.out.1 H.out.2.2.2.2.2.1).alloc (H3.out.1.lt H.out.1) _) (H3.out.2.2.1.alloc H3.out.2.1 _)).mono ?_); rintro e w4 ⟨rfl, hT, hE⟩; have hEE : Ext w w4 := H3.out.1.trans (Turned.ext_of_new (Ext.al w3 _) hT (Nat.le_refl _)); have hl0 : w1.heap.size < w4.heap.size := hT.lt (size_al H3.out.2.1 _); have he0 : Elt w4 w1.heap.size 0 (finv Z) := (H3.out.2.2.1.alloc H3.out.2.1 _).far hT (size_al H3.out.2.1 _) (.inl (Nat.ne_of_lt H3.out.2.1)); have hln : w3.heap.size < w4.heap.size := hT.lt (by simp [size_alloc]); have hl1 : w2.heap.size < w4.heap.size := hT.lt (size_al H3.out.2.2.2.1 _); have he1 : Elt w4 w2.heap.size 0 (X * finv Z) := (H3.out.2.2.2.2.alloc H3.out.2.2.2.1 _).far hT (size_al H3.out.2.2.2.1 _) (.inl (Nat.ne_of_lt H3.out.2.2.2.1)); have hc2 : c < w2.heap.size := H2.out.1.lt H.out.2.1; have hc3 : c < w3.heap.size := H3.out.1.lt H.out.2.1; have H4 := Lib.hid (And.intro hEE (And.intro hl1 (And.intro he1 (And.intro hln (And.intro hE (And.intro hc2 hc3)))))); clear hEE hl0 he0 hln hE hl1 he1 hc2 hc3; clear hT)) | (at_builtin; refine wpList_append_held rfl _ _ 22 rfl 5 i0 Try.underlying22 hi hz1 (k := .u8) c 0 0 33 w4.heap.size 0 1 1 [2] rfl rfl rfl (held_one (heap_at w4 _ _ rfl)) (by decide) (((H4.out.1.free H.out.2.1 H.out.2.2.2.1).sub (by decide) (by decide)).alloc (H4.out.1.lt H.out.2.1) _) ?_; intro w5 hT hh; have H5 := Lib.hid (And.intro hT hh); clear hT hh; have hc4 : c < w4.heap.size := H4.out.1.lt H.out.2.1; have hf5 : Free w5 c 1 32 := ((((H4.out.1.free H.out.2.1 H.out.2.2.2.1).sub (by decide) (by decide)).alloc hc4 _).far H5.out.1 (size_al hc4 _) (.inr (.inr (by decide)))); have ha5 : Elt w5 w2.heap.size 0 (X * finv Z) := (H4.out.2.2.1.alloc H4.out.2.1 _).far H5.out.1 (size_al H4.out.2.1 _) (.inl (Nat.ne_of_gt H4.out.2.2.2.2.2.1)); have hb5 : Elt w5 w3.heap.size 0 (Y * finv Z) := (H4.out.2.2.2.2.1.alloc H4.out.2.2.2.1 _).far H5.out.1 (size_al H4.out.2.2.2.1 _) (.inl (Nat.ne_of_gt H4.out.2.2.2.2.2.2)); have hT5 : Turned c 0 33 w w5 := (((Turned.refl c 0 33 w).ext_on H.out.2.1 (H4.out.1.trans (Ext.al w4 _)))).trans (H5.out.1.part (by decide) (by decide)); have K5 := Lib.hid (And.intro hT5 (And.intro hf5 (And.intro ha5 (And.intro hb5 (And.intro (show w2.heap.size < w5.heap.size from H5.out.1.lt (size_al H4.out.2.1 _)) (And.intro (show w3.heap.size < w5.heap.size from H5.out.1.lt (size_al H4.out.2.2.2.1 _)) (show c < w5.heap.size from H5.out.1.lt (size_al hc4 _)))))))); have F5 := Lib.hid (Free.heldFree (((H4.out.1.free H.out.2.1 H.out.2.2.2.1).sub (o' := 0) (len' := 1) (by decide) (by decide)).alloc hc4 _) H5.out.1 H5.out.2 (by decide) (size_al hc4 _)); clear hc4 hf5 ha5 hb5 hT5))
  have q5 : w5.cell? ⟨c, 0, none⟩ = some (.int .u8 2) := H5.out.2 0 2 rfl
  have HV := Lib.hid (show (Bx (Y * finv Z))[31]? = some v ∧ Bx (Y * finv Z) = (bds 32 ((Y * finv Z).val : Int)).reverse from ⟨hv, rfl⟩)
  have ho : bits BinOp.or IntKind.u8 2 0 = 2 := by decide +kernel
  have hd1 : w3.heap.size < w5.drew.heap.size := K5.out.2.2.2.2.2.1
  have hd2 : Elt w5.drew w3.heap.size 0 (Y * finv Z) := K5.out.2.2.2.1
  have HD := Lib.hid (And.intro hd1 hd2)
  clear hv hd1 hd2
  have q5' : w5.drew.cell? ⟨c, 0, none⟩ = some (.int .u8 2) := q5
  go_region_with ((go_at_call 91; ((with_reducible refine (Bytes_any w3.heap.size 0 (Y * finv Z) w5.drew HD.out.1 HD.out.2).mono ?_); rintro e w6 ⟨rfl, hE, hs, hB⟩; have q6 := cell_ext' hE q5; have q7 : w6.cell? ⟨w5.heap.size, 31, none⟩ = some (.int .u8 v) := (by have := hB 31 v (by rw [← HV.out.2]; exact HV.out.1); simpa using this); have q8 : w6.frozen? ⟨c, 0, none⟩ = false := ((Ext.of_drew hE).free K5.out.2.2.2.2.2.2 F5.out 0 (by decide)).2; have H6 := Lib.hid (And.intro (Ext.of_drew hE) (And.intro hs hB)); clear hE hs hB)))
  all_goals
    have H7 := Lib.hid (set_one (w := w6) (c := c) (o := 0) (.int .u8 2) (H6.out.1.free K5.out.2.2.2.2.2.2 F5.out))
    generalize w6.setCell ⟨c, 0, none⟩ (.int .u8 2) = w7 at H7 ⊢
    clear q6 q7 q8
    go_wp2_with (first | (go_at_call 91; ((with_reducible refine (Bytes_any w2.heap.size 0 (X * finv Z) w7 (H7.out.1.lt (H6.out.1.lt K5.out.2.2.2.2.1)) ((H6.out.1.elt K5.out.2.2.2.2.1 K5.out.2.2.1).far H7.out.1 (H6.out.1.lt K5.out.2.2.2.2.1) (.inl (Nat.ne_of_gt H4.out.2.2.2.2.2.1)))).mono ?_); rintro e w8 ⟨rfl, hE, hs, hB⟩; have H8 := Lib.hid (And.intro hE (And.intro hs hB)); clear hE hs hB)) | (at_builtin; refine wpList_append_held rfl _ _ 22 rfl 5 i0 Try.underlying22 hi hz1 (k := .u8) c 0 1 33 w7.heap.size 0 32 32 _ rfl rfl (rev_len _) H8.out.2.2 (by decide) (H8.out.1.free (H7.out.1.lt (H6.out.1.lt K5.out.2.2.2.2.2.2)) (((H6.out.1.free K5.out.2.2.2.2.2.2 K5.out.2.1).sub (o' := 1) (len' := 32) (by decide) (by decide)).far H7.out.1 (H6.out.1.lt K5.out.2.2.2.2.2.2) (.inr (.inr (by decide))))) ?_; intro w9 hT hh; have H9 := Lib.hid (And.intro hT hh); clear hT hh))
    have l5 := K5.out.2.2.2.2.2.2
    have l6 := H6.out.1.lt l5
    have l7 := H7.out.1.lt l6
    have l8 := H8.out.1.lt l7
    have h7 : Held .u8 w7 c 0 [2] := fun i x hi => by
      obtain rfl : i = 0 := by have := (List.getElem?_eq_some_iff.1 hi).1; simpa using this
      have h2 := H7.out.2
      simp at hi
      subst hi
      exact h2
    have h4 : Held .u8 w9 c 0 [2] := Held.far (H8.out.1.held l7 h7) H9.out.1 l8 (.inr (.inl (by decide)))
    have hT : Turned c 0 33 w w9 := (((K5.out.1.trans ((Turned.refl _ _ _ _).ext_on l5 H6.out.1)).trans (H7.out.1.part (by decide) (by decide))).trans ((Turned.refl _ _ _ _).ext_on l7 H8.out.1)).trans (H9.out.1.part (by decide) (by decide))
    exact bodyPost_ret (v := .slice (some ⟨c, 0, none⟩) 33 33) (by simp [results, Try.results101, go_sem]) rfl ⟨rfl, hT, Held.app h4 H9.out.2⟩
set_option maxHeartbeats 1000000 in
set_option maxRecDepth 100000 in
theorem bytesCompressed_1 (b c : Nat) (X Y Z : Fp) (w : World) (hb : b < w.heap.size) (hc : c < w.heap.size) (hn : b ≠ c) (hf : Free w c 0 33) (hp : Pnt w b 0 X Y Z) (hz : ¬ Z = 0) (v : Int) (hv : (Bx (Y * finv Z))[31]? = some v) (ha : bits BinOp.and IntKind.u8 v 1 = 1) : Calls Try.prog 101 #[.pointer (some ⟨b, 0, none⟩), .pointer (some ⟨c, 0, none⟩)] w fun e w' => e = .returned (.slice (some ⟨c, 0, none⟩) 33 33) ∧ Turned c 0 33 w w' ∧ Held .u8 w' c 0 ([3] ++ Bx (X * finv Z)) := by
  have H := Lib.hid (And.intro hb (And.intro hc (And.intro hn (And.intro hf (And.intro hp.1 (And.intro hp.2.1 hp.2.2))))))
  obtain ⟨i0, hi, hz0, hz1, hz2⟩ := info_parts info_u8
  clear hb hc hn hf hp
  go_enter Try.func101, Try.ntmps101
  go_wp2_with (first | (go_at_call 108; go_must (refine (IsZero_any b 8 Z w H.out.1 H.out.2.2.2.2.2.2).mono ?_); rintro e w1 ⟨he, hE⟩; rw [if_neg hz] at he; subst he; have H1 := Lib.hid hE; clear hE) | (go_at_call 109; go_must (refine (Invert_any' w1.heap.size 0 b 8 Z 0 (w1.alloc (.cells #[.int .u64 0, .int .u64 0, .int .u64 0, .int .u64 0] 111)) (by simp [size_alloc]) (size_al (H1.out.lt H.out.1) _) (Free.newWords (cs := #[.int .u64 0, .int .u64 0, .int .u64 0, .int .u64 0]) rfl rfl) (Elt.zero (len := 4) _ (heap_at w1 _ _ rfl) (by decide)) ((H1.out.elt H.out.1 H.out.2.2.2.2.2.2).alloc (H1.out.lt H.out.1) _)).mono ?_); rintro e w2 ⟨rfl, hT, hE⟩; have hE2 : Ext w w2 := H1.out.trans (Turned.ext_of_new (Ext.al w1 _) hT (Nat.le_refl _)); have hn2 : w1.heap.size < w2.heap.size := hT.lt (by simp [size_alloc]); have H2 := Lib.hid (And.intro hE2 (And.intro hn2 hE)); clear hT hE hE2 hn2) | (go_at_call 103; first | ((with_reducible refine (Elm_Mul w2.heap.size 0 b 0 w1.heap.size 0 X (finv Z) (w2.alloc (.cells #[.int .u64 0, .int .u64 0, .int .u64 0, .int .u64 0] 111)) (by simp [size_alloc]) (size_al (H2.out.1.lt H.out.1) _) (size_al H2.out.2.1 _) (Free.newWords (cs := #[.int .u64 0, .int .u64 0, .int .u64 0, .int .u64 0]) rfl rfl) ((H2.out.1.elt H.out.1 H.out.2.2.2.2.1).alloc (H2.out.1.lt H.out.1) _) (H2.out.2.2.alloc H2.out.2.1 _)).mono ?_); rintro e w3 ⟨rfl, hT, hE⟩; have hEE : Ext w w3 := H2.out.1.trans (Turned.ext_of_new (Ext.al w2 _) hT (Nat.le_refl _)); have hl0 : w1.heap.size < w3.heap.size := hT.lt (size_al H2.out.2.1 _); have he0 : Elt w3 w1.heap.size 0 (finv Z) := (H2.out.2.2.alloc H2.out.2.1 _).far hT (size_al H2.out.2.1 _) (.inl (Nat.ne_of_lt H2.out.2.1)); have hln : w2.heap.size < w3.heap.size := hT.lt (by simp [size_alloc]); have H3 := Lib.hid (And.intro hEE (And.intro hl0 (And.intro he0 (And.intro hln hE)))); clear hEE hl0 he0 hln hE; clear hT) | ((with_reducible refine (Elm_Mul w3.heap.size 0 b 4 w1.heap.size 0 Y (finv Z) (w3.alloc (.cells #[.int .u64 0, .int .u64 0, .int .u64 0, .int .u64 0] 111)) (by simp [size_alloc]) (size_al (H3.out.1.lt H.out.1) _) (size_al H3.out.2.1 _) (Free.newWords (cs := #[.int .u64 0, .int .u64 0, .int .u64 0, .int .u64 0]) rfl rfl) ((H3.out.1.elt H.out.1 H.out.2.2.2.2.2.1).alloc (H3.out.1.lt H.out.1) _) (H3.out.2.2.1.alloc H3.out.2.1 _)).mono ?_); rintro e w4 ⟨rfl, hT, hE⟩; have hEE : Ext w w4 := H3.out.1.trans (Turned.ext_of_new (Ext.al w3 _) hT (Nat.le_refl _)); have hl0 : w1.heap.size < w4.heap.size := hT.lt (size_al H3.out.2.1 _); have he0 : Elt w4 w1.heap.size 0 (finv Z) := (H3.out.2.2.1.alloc H3.out.2.1 _).far hT (size_al H3.out.2.1 _) (.inl (Nat.ne_of_lt H3.out.2.1)); have hln : w3.heap.size < w4.heap.size := hT.lt (by simp [size_alloc]); have hl1 : w2.heap.size < w4.heap.size := hT.lt (size_al H3.out.2.2.2.1 _); have he1 : Elt w4 w2.heap.size 0 (X * finv Z) := (H3.out.2.2.2.2.alloc H3.out.2.2.2.1 _).far hT (size_al H3.out.2.2.2.1 _) (.inl (Nat.ne_of_lt H3.out.2.2.2.1)); have hc2 : c < w2.heap.size := H2.out.1.lt H.out.2.1; have hc3 : c < w3.heap.size := H3.out.1.lt H.out.2.1; have H4 := Lib.hid (And.intro hEE (And.intro hl1 (And.intro he1 (And.intro hln (And.intro hE (And.intro hc2 hc3)))))); clear hEE hl0 he0 hln hE hl1 he1 hc2 hc3; clear hT)) | (at_builtin; refine wpList_append_held rfl _ _ 22 rfl 5 i0 Try.underlying22 hi hz1 (k := .u8) c 0 0 33 w4.heap.size 0 1 1 [2] rfl rfl rfl (held_one (heap_at w4 _ _ rfl)) (by decide) (((H4.out.1.free H.out.2.1 H.out.2.2.2.1).sub (by decide) (by decide)).alloc (H4.out.1.lt H.out.2.1) _) ?_; intro w5 hT hh; have H5 := Lib.hid (And.intro hT hh); clear hT hh; have hc4 : c < w4.heap.size := H4.out.1.lt H.out.2.1; have hf5 : Free w5 c 1 32 := ((((H4.out.1.free H.out.2.1 H.out.2.2.2.1).sub (by decide) (by decide)).alloc hc4 _).far H5.out.1 (size_al hc4 _) (.inr (.inr (by decide)))); have ha5 : Elt w5 w2.heap.size 0 (X * finv Z) := (H4.out.2.2.1.alloc H4.out.2.1 _).far H5.out.1 (size_al H4.out.2.1 _) (.inl (Nat.ne_of_gt H4.out.2.2.2.2.2.1)); have hb5 : Elt w5 w3.heap.size 0 (Y * finv Z) := (H4.out.2.2.2.2.1.alloc H4.out.2.2.2.1 _).far H5.out.1 (size_al H4.out.2.2.2.1 _) (.inl (Nat.ne_of_gt H4.out.2.2.2.2.2.2)); have hT5 : Turned c 0 33 w w5 := (((Turned.refl c 0 33 w).ext_on H.out.2.1 (H4.out.1.trans (Ext.al w4 _)))).trans (H5.out.1.part (by decide) (by decide)); have K5 := Lib.hid (And.intro hT5 (And.intro hf5 (And.intro ha5 (And.intro hb5 (And.intro (show w2.heap.size < w5.heap.size from H5.out.1.lt (size_al H4.out.2.1 _)) (And.intro (show w3.heap.size < w5.heap.size from H5.out.1.lt (size_al H4.out.2.2.2.1 _)) (show c < w5.heap.size from H5.out.1.lt (size_al hc4 _)))))))); have F5 := Lib.hid (Free.heldFree (((H4.out.1.free H.out.2.1 H.out.2.2.2.1).sub (o' := 0) (len' := 1) (by decide) (by decide)).alloc hc4 _) H5.out.1 H5.out.2 (by decide) (size_al hc4 _)); clear hc4 hf5 ha5 hb5 hT5))
  have q5 : w5.cell? ⟨c, 0, none⟩ = some (.int .u8 2) := H5.out.2 0 2 rfl
  have HV := Lib.hid (show (Bx (Y * finv Z))[31]? = some v ∧ Bx (Y * finv Z) = (bds 32 ((Y * finv Z).val : Int)).reverse from ⟨hv, rfl⟩)
  have ho : bits BinOp.or IntKind.u8 2 1 = 3 := by decide +kernel
  have hd1 : w3.heap.size < w5.drew.heap.size := K5.out.2.2.2.2.2.1
  have hd2 : Elt w5.drew w3.heap.size 0 (Y * finv Z) := K5.out.2.2.2.1
  have HD := Lib.hid (And.intro hd1 hd2)
  clear hv hd1 hd2
  have q5' : w5.drew.cell? ⟨c, 0, none⟩ = some (.int .u8 2) := q5
  go_region_with ((go_at_call 91; ((with_reducible refine (Bytes_any w3.heap.size 0 (Y * finv Z) w5.drew HD.out.1 HD.out.2).mono ?_); rintro e w6 ⟨rfl, hE, hs, hB⟩; have q6 := cell_ext' hE q5; have q7 : w6.cell? ⟨w5.heap.size, 31, none⟩ = some (.int .u8 v) := (by have := hB 31 v (by rw [← HV.out.2]; exact HV.out.1); simpa using this); have q8 : w6.frozen? ⟨c, 0, none⟩ = false := ((Ext.of_drew hE).free K5.out.2.2.2.2.2.2 F5.out 0 (by decide)).2; have H6 := Lib.hid (And.intro (Ext.of_drew hE) (And.intro hs hB)); clear hE hs hB)))
  all_goals
    have H7 := Lib.hid (set_one (w := w6) (c := c) (o := 0) (.int .u8 3) (H6.out.1.free K5.out.2.2.2.2.2.2 F5.out))
    generalize w6.setCell ⟨c, 0, none⟩ (.int .u8 3) = w7 at H7 ⊢
    clear q6 q7 q8
    go_wp2_with (first | (go_at_call 91; ((with_reducible refine (Bytes_any w2.heap.size 0 (X * finv Z) w7 (H7.out.1.lt (H6.out.1.lt K5.out.2.2.2.2.1)) ((H6.out.1.elt K5.out.2.2.2.2.1 K5.out.2.2.1).far H7.out.1 (H6.out.1.lt K5.out.2.2.2.2.1) (.inl (Nat.ne_of_gt H4.out.2.2.2.2.2.1)))).mono ?_); rintro e w8 ⟨rfl, hE, hs, hB⟩; have H8 := Lib.hid (And.intro hE (And.intro hs hB)); clear hE hs hB)) | (at_builtin; refine wpList_append_held rfl _ _ 22 rfl 5 i0 Try.underlying22 hi hz1 (k := .u8) c 0 1 33 w7.heap.size 0 32 32 _ rfl rfl (rev_len _) H8.out.2.2 (by decide) (H8.out.1.free (H7.out.1.lt (H6.out.1.lt K5.out.2.2.2.2.2.2)) (((H6.out.1.free K5.out.2.2.2.2.2.2 K5.out.2.1).sub (o' := 1) (len' := 32) (by decide) (by decide)).far H7.out.1 (H6.out.1.lt K5.out.2.2.2.2.2.2) (.inr (.inr (by decide))))) ?_; intro w9 hT hh; have H9 := Lib.hid (And.intro hT hh); clear hT hh))
    have l5 := K5.out.2.2.2.2.2.2
    have l6 := H6.out.1.lt l5
    have l7 := H7.out.1.lt l6
    have l8 := H8.out.1.lt l7
    have h7 : Held .u8 w7 c 0 [3] := fun i x hi => by
      obtain rfl : i = 0 := by have := (List.getElem?_eq_some_iff.1 hi).1; simpa using this
      have h2 := H7.out.2
      simp at hi
      subst hi
      exact h2
    have h4 : Held .u8 w9 c 0 [3] := Held.far (H8.out.1.held l7 h7) H9.out.1 l8 (.inr (.inl (by decide)))
    have hT : Turned c 0 33 w w9 := (((K5.out.1.trans ((Turned.refl _ _ _ _).ext_on l5 H6.out.1)).trans (H7.out.1.part (by decide) (by decide))).trans ((Turned.refl _ _ _ _).ext_on l7 H8.out.1)).trans (H9.out.1.part (by decide) (by decide))
    exact bodyPost_ret (v := .slice (some ⟨c, 0, none⟩) 33 33) (by simp [results, Try.results101, go_sem]) rfl ⟨rfl, hT, Held.app h4 H9.out.2⟩
theorem wrL_len (P : Pt) : (wrL P).length = (match P with | .far => 1 | .aff _ _ => 65) := by
  cases P with
  | far => rfl
  | aff x y => simp [wrL, Bx_len]
theorem shL_len (P : Pt) : (shL P).length = (match P with | .far => 1 | .aff _ _ => 33) := by
  cases P with
  | far => rfl
  | aff x y => simp [shL, Bx_len]
theorem parity (v : Int) (h0 : 0 ≤ v) (h1 : v < 256) : bits BinOp.and IntKind.u8 v 1 = v % 2 := by
  obtain ⟨c, rfl⟩ := Int.eq_ofNat_of_zero_le h0
  have e : (BitVec.ofInt 8 (c : Int) &&& BitVec.ofInt 8 1).toNat = c % 2 := by
    rw [BitVec.toNat_and]
    have h1 : (BitVec.ofInt 8 1).toNat = 1 := by decide
    have h2 : (BitVec.ofInt 8 (c : Int)).toNat = c % 256 := by simp [BitVec.toNat_ofInt]
    rw [h1, h2, show (1 : Nat) = 2 ^ 1 - 1 from rfl, Nat.and_two_pow_sub_one_eq_mod]
    omega
  show IntKind.u8.wrap (((BitVec.ofInt 8 (c : Int) &&& BitVec.ofInt 8 1).toNat : Nat) : Int) = _
  rw [e]
  simp [IntKind.wrap, IntKind.signed, IntKind.bits]
  omega
theorem bytesHp (b c : Nat) (P : Pt) (w : World) (hb : b < w.heap.size) (hc : c < w.heap.size) (hn : b ≠ c) (hf : Free w c 0 65) (h : Hp w b 0 P) : Calls Try.prog 93 #[.pointer (some ⟨b, 0, none⟩), .pointer (some ⟨c, 0, none⟩)] w fun e w' => e = .returned (.slice (some ⟨c, 0, none⟩) (wrL P).length 65) ∧ Turned c 0 65 w w' ∧ Held .u8 w' c 0 (wrL P) := by
  obtain ⟨X, Y, Z, hp, _, rfl⟩ := h
  by_cases hz : Z = 0
  · have e : affP X Y Z = .far := by unfold affP; rw [if_pos hz]
    rw [e]
    exact bytes_far b c X Y Z w hb hc hn hf hp hz
  · have e : affP X Y Z = .aff (X * finv Z) (Y * finv Z) := by unfold affP; rw [if_neg hz]
    rw [e, wrL_len]
    exact bytes_aff b c X Y Z w hb hc hn hf hp hz
theorem bytesCHp (b c : Nat) (P : Pt) (w : World) (hb : b < w.heap.size) (hc : c < w.heap.size) (hn : b ≠ c) (hf : Free w c 0 33) (h : Hp w b 0 P) : Calls Try.prog 101 #[.pointer (some ⟨b, 0, none⟩), .pointer (some ⟨c, 0, none⟩)] w fun e w' => e = .returned (.slice (some ⟨c, 0, none⟩) (shL P).length 33) ∧ Turned c 0 33 w w' ∧ Held .u8 w' c 0 (shL P) := by
  obtain ⟨X, Y, Z, hp, _, rfl⟩ := h
  by_cases hz : Z = 0
  · have e : affP X Y Z = .far := by unfold affP; rw [if_pos hz]
    rw [e]
    exact bytesCompressed_far b c X Y Z w hb hc hn hf hp hz
  · have e : affP X Y Z = .aff (X * finv Z) (Y * finv Z) := by unfold affP; rw [if_neg hz]
    have hl := low_byte (Y * finv Z)
    have hpar := parity (((Y * finv Z : Fp).val : Int) % 256) (Int.emod_nonneg _ (by decide)) (Int.emod_lt_of_pos _ (by decide))
    have hmod : ((Y * finv Z : Fp).val : Int) % 256 % 2 = ((Y * finv Z : Fp).val : Int) % 2 := by omega
    rw [hmod] at hpar
    rw [e, shL_len]
    rcases (show ((Y * finv Z : Fp).val : Int) % 2 = 0 ∨ ((Y * finv Z : Fp).val : Int) % 2 = 1 by omega) with h2 | h2
    · have e2 : shL (.aff (X * finv Z) (Y * finv Z)) = [2] ++ Bx (X * finv Z) := by show [2 + ((Y * finv Z : Fp).val : Int) % 2] ++ Bx (X * finv Z) = _; rw [h2]; rfl
      rw [h2] at hpar
      rw [e2]
      exact bytesCompressed_0 b c X Y Z w hb hc hn hf hp hz _ hl hpar
    · have e2 : shL (.aff (X * finv Z) (Y * finv Z)) = [3] ++ Bx (X * finv Z) := by show [2 + ((Y * finv Z : Fp).val : Int) % 2] ++ Bx (X * finv Z) = _; rw [h2]; rfl
      rw [h2] at hpar
      rw [e2]
      exact bytesCompressed_1 b c X Y Z w hb hc hn hf hp hz _ hl hpar
def z65 : Array Value := (List.replicate 65 (Value.int .u8 0)).toArray
set_option maxRecDepth 100000 in
theorem zero65 : ∀ w, (zeroValue 122).run Try.prog w = .ok (.agg z65) w := (zero_of_info (P := Try.prog) (n := 65) (by kernel_rfl)).1
theorem free_z65 (w : World) : Free (w.alloc (.cells z65 122)) w.heap.size 0 65 := Free.newWords (cs := z65) rfl (by unfold z65; decide +kernel)
attribute [irreducible] z65
set_option maxHeartbeats 1000000 in
set_option maxRecDepth 100000 in
theorem Bytes65_any (b : Nat) (P : Pt) (w : World) (hb : b < w.heap.size) (h : Hp w b 0 P) : Calls Try.prog 60 #[.pointer (some ⟨b, 0, none⟩)] w fun e w' => e = .returned (.slice (some ⟨w.heap.size, 0, none⟩) (wrL P).length 65) ∧ w.heap.size < w'.heap.size ∧ Ext w w' ∧ Held .u8 w' w.heap.size 0 (wrL P) := by
  have H := Lib.hid (And.intro hb h)
  clear hb h
  go_enter Try.func60, Try.ntmps60
  go_wp2_with (first | (refine wpList_alloc_row rfl 122 _ rfl zero65 ?_) | (go_at_call 93; go_must (refine (bytesHp b w.heap.size P (w.alloc (.cells z65 122)) (size_al H.out.1 _) (by simp [size_alloc]) (Nat.ne_of_lt H.out.1) (free_z65 w) (H.out.2.alloc H.out.1 _)).mono ?_); rintro e w1 ⟨rfl, hT, hh⟩; have H1 := Lib.hid (And.intro hT hh); clear hT hh))
  exact bodyPost_ret (v := .slice (some ⟨w.heap.size, 0, none⟩) (wrL P).length 65) (by simp [results, Try.results60, go_sem]) rfl ⟨rfl, H1.out.1.lt (by simp [size_alloc]), Turned.ext_of_new (Ext.al _ _) H1.out.1 (Nat.le_refl _), H1.out.2⟩
def z33 : Array Value := (List.replicate 33 (Value.int .u8 0)).toArray
set_option maxRecDepth 100000 in
theorem zero33 : ∀ w, (zeroValue 140).run Try.prog w = .ok (.agg z33) w := (zero_of_info (P := Try.prog) (n := 33) (by kernel_rfl)).1
theorem free_z33 (w : World) : Free (w.alloc (.cells z33 140)) w.heap.size 0 33 := Free.newWords (cs := z33) rfl (by unfold z33; decide +kernel)
attribute [irreducible] z33
set_option maxHeartbeats 1000000 in
set_option maxRecDepth 100000 in
theorem Bytes33_any (b : Nat) (P : Pt) (w : World) (hb : b < w.heap.size) (h : Hp w b 0 P) : Calls Try.prog 71 #[.pointer (some ⟨b, 0, none⟩)] w fun e w' => e = .returned (.slice (some ⟨w.heap.size, 0, none⟩) (shL P).length 33) ∧ w.heap.size < w'.heap.size ∧ Ext w w' ∧ Held .u8 w' w.heap.size 0 (shL P) := by
  have H := Lib.hid (And.intro hb h)
  clear hb h
  go_enter Try.func71, Try.ntmps71
  go_wp2_with (first | (refine wpList_alloc_row rfl 140 _ rfl zero33 ?_) | (go_at_call 101; go_must (refine (bytesCHp b w.heap.size P (w.alloc (.cells z33 140)) (size_al H.out.1 _) (by simp [size_alloc]) (Nat.ne_of_lt H.out.1) (free_z33 w) (H.out.2.alloc H.out.1 _)).mono ?_); rintro e w1 ⟨rfl, hT, hh⟩; have H1 := Lib.hid (And.intro hT hh); clear hT hh))
  exact bodyPost_ret (v := .slice (some ⟨w.heap.size, 0, none⟩) (shL P).length 33) (by simp [results, Try.results71, go_sem]) rfl ⟨rfl, H1.out.1.lt (by simp [size_alloc]), Turned.ext_of_new (Ext.al _ _) H1.out.1 (Nat.le_refl _), H1.out.2⟩
end Go.Proofs.Ytmepgkcijeobkaa
/-
  What is proved here: which bytes are told of a point: one byte for the far one, 65 or 33 for the others; the root that a point's second coordinate is, or the opposite of.
  Conditions: those of each theorem.
-/
namespace Go.Proofs.Ytmepgkcijeobkaa
open Go Go.RowKit Ecp
set_option linter.unusedSimpArgs false
set_option linter.unusedVariables false

theorem root_half : 2 * ((pN + 1) / 4 + (pN + 1) / 4) = pN + 1 := by decide +kernel
theorem root_sq {S y : Fp} (h : y * y = S) : fpow S ((pN + 1) / 4) * fpow S ((pN + 1) / 4) = S := by
  rw [← fpow_add, ← h, ← fpow_two, ← fpow_mul, root_half, fpow_succ, fpow_p, fpow_two]
theorem root_or {S y : Fp} (h : y * y = S) : fpow S ((pN + 1) / 4) = y ∨ fpow S ((pN + 1) / 4) = 0 - y := by
  rcases mul_eq_zero' (g_sq_eq _ _ _ h (root_sq h)) with e | e
  · exact .inl (g_sub _ _ e).symm
  · exact .inr (g_add_zero' _ _ e)
theorem neg_val' {y : Fp} (h : y ≠ 0) : (0 - y).val = pN - y.val := by
  have h0 : y.val ≠ 0 := fun e => h (Fin.ext (by rw [e]; exact val_zero'.symm))
  have h1 := y.isLt
  show (pN - y.val + (0 : Fp).val) % pN = _
  rw [val_zero', Nat.add_zero, Nat.mod_eq_of_lt (by omega)]
theorem pN_odd : pN % 2 = 1 := by decide +kernel
theorem neg_par {y : Fp} (h : y ≠ 0) : ((0 - y).val : Int) % 2 = 1 - (y.val : Int) % 2 := by
  rw [neg_val' h]
  have h1 := y.isLt
  have h2 := pN_odd
  omega
theorem onc_root {x y : Fp} (h : Onc x y) : y * y = x * x * x - (x + x + x) + cB := by
  have e : x + x + x = 3 * x := by
    have : ∀ z : Fin pN, z + z + z = 3 * z := fun z => by grind -lia
    exact this x
  rw [e]; exact h

/-- The bytes that are read as the point P. -/
def Cod (l : List Int) (P : Pt) : Prop := (l = [0] ∧ P = .far) ∨ ∃ x y, Onc x y ∧ P = .aff x y ∧ (l = [4] ++ Bx x ++ Bx y ∨ l = [2 + (y.val : Int) % 2] ++ Bx x)
theorem Cod.pos {l : List Int} {P : Pt} (h : Cod l P) : 0 < l.length := by
  rcases h with ⟨rfl, _⟩ | ⟨x, y, _, _, rfl | rfl⟩ <;> simp
theorem Cod.most {l : List Int} {P : Pt} (h : Cod l P) : l.length ≤ 65 := by
  rcases h with ⟨rfl, _⟩ | ⟨x, y, _, _, rfl | rfl⟩ <;> simp [Bx_len]
theorem Cod.on {l : List Int} {P : Pt} (h : Cod l P) : P.on := by
  rcases h with ⟨rfl, rfl⟩ | ⟨x, y, h, rfl, _⟩
  · trivial
  · exact h
theorem Held.part {k : IntKind} {w : World} {b o : Nat} {xs ys zs : List Int} (h : Held k w b o (xs ++ ys ++ zs)) : Held k w b (o + xs.length) ys := fun i x hi => by
  have := h (xs.length + i) x (by
    obtain ⟨hl, _⟩ := List.getElem?_eq_some_iff.mp hi
    rw [List.append_assoc, List.getElem?_append_right (by omega), Nat.add_sub_cancel_left, List.getElem?_append_left hl]; exact hi)
  rw [Nat.add_assoc]; exact this
theorem Held.tail {k : IntKind} {w : World} {b o : Nat} {xs ys : List Int} (h : Held k w b o (xs ++ ys)) : Held k w b (o + xs.length) ys := by
  have : Held k w b o (xs ++ ys ++ []) := by rw [List.append_nil]; exact h
  exact this.part
end Go.Proofs.Ytmepgkcijeobkaa
