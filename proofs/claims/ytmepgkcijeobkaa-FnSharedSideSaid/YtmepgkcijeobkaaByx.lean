/-
  What is proved here: what telling a point's first coordinate returns.
  Conditions: those of each theorem.
-/
import Derived.Test.YtmepgkcijeobkaaProg
import Derived.Test.YtmepgkcijeobkaaBysCod
import Derived.Test.YtmepgkcijeobkaaEleElo
import Derived.Test.YtmepgkcijeobkaaImq
import Derived.ArgAppend
import Derived.WalkKit
import Derived.WalkSpells
import Derived.Outline
import Derived.Handy
import Derived.ProofKit
import Derived.Deep.QuietTactic
import Derived.BigQuiet
import Derived.Lib.Hide
import Derived.OpenShut
namespace Go.Proofs.Ytmepgkcijeobkaa
open Go Go.RowKit Ecp
set_option linter.unusedSimpArgs false
set_option linter.unusedVariables false

theorem Ext.drN (w : World) (n : Nat) : Ext w (w.drewN n) := Ext.of_below ⟨rfl, rfl, rfl, Nat.le_refl _, fun k _ => rfl⟩
theorem step_append_held {P : Program} {w : World} {ops : Array Oper} {o : Oper} {a : Act} {K : Act → World → Prop} {Q : Exit → Act → World → Prop} {E : Prop} (hgd : o.guard = none) (s x : Operand) (t : TypeId)
    (ho : o.op = .call { callee := .builtin .append, args := #[s, x], argTypes := #[t, t] }) (e : TypeId) (i : TypeInfo) (ht : P.underlying t = some (.slice e)) (hi : P.info? e = some i) (hi1 : i.size = 1)
    {k : IntKind} (b off n cap c p m mCap : Nat) (xs : List Int) (hs : a.eval s = .slice (some ⟨b, off, none⟩) n cap) (hx : a.eval x = .slice (some ⟨c, p, none⟩) m mCap) (hl : xs.length = m) (hh : Held k w c p xs) (hroom : n + m ≤ cap) (hf : Free w b (off + n) m)
    (h : ∀ w', Turned b (off + n) m w w' → Held k w' b (off + n) xs → K (a.put o.dst (.slice (some ⟨b, off, none⟩) (n + m) cap)) w') : if Region.wanted o (yielded ops a.tmps) = true then Oper.wp P o a w K Q else E := by
  have hw : Region.wanted o (yielded ops a.tmps) = true := by simp [Region.wanted, hgd]
  rw [if_pos hw]
  have hlen : (xs.map (Value.int k)).length = m := by simp [hl]
  have hrun := run_append_room_cells (P := P) w t o.type e i ht hi b off n cap ⟨c, p, none⟩ m mCap (xs.map (Value.int k)) (by rw [hlen, hi1, Nat.mul_one]) (fun j v hj => by
    rw [List.getElem?_map] at hj
    obtain ⟨x, hx1, rfl⟩ := Option.map_eq_some_iff.1 hj
    rw [add_ptr]
    exact hh j x hx1) (fun u hu => by
    obtain ⟨x, _, rfl⟩ := List.mem_map.1 hu
    rfl) hroom (fun j hj => by rw [hi1, Nat.mul_one]; obtain ⟨⟨u, hu'⟩, _⟩ := hf j (by omega); rw [hu']; rfl) (fun j hj => by rw [hi1, Nat.mul_one]; exact (hf j (by omega)).2)
  obtain ⟨hT, hc⟩ := setCells_turned (xs.map (Value.int k)) w b (off + n) (fun j hj => by obtain ⟨⟨u, hu'⟩, _⟩ := hf j (by omega); rw [hu']; rfl)
  rw [hlen] at hT
  rw [hi1, Nat.mul_one] at hrun
  unfold Oper.wp execOp
  simp only [ho, resolve, invoke, builtin, Sem.run_bind, Sem.run_pure, Result.andThen_ok, List.map_toArray, List.map_cons, List.map_nil, hs, hx, hrun]
  exact h _ hT fun j x hj => hc j _ (by rw [List.getElem?_map, hj]; rfl)
set_option maxHeartbeats 1000000 in
set_option maxRecDepth 100000 in
theorem bytesX_far (b c : Nat) (X Y Z : Fp) (w : World) (hb : b < w.heap.size) (hc : c < w.heap.size) (hn : b ≠ c) (hf : Free w c 0 32) (hp : Pnt w b 0 X Y Z) (hz : Z = 0) : Calls Try.prog 82 #[.pointer (some ⟨b, 0, none⟩), .pointer (some ⟨c, 0, none⟩)] w fun e w' => (∃ t u, e = .returned (.tuple #[.slice none 0 0, .iface t u])) ∧ Ext w w' := by
  have H := Lib.hid (And.intro hb (And.intro hc (And.intro hn (And.intro hf (And.intro hp.1 (And.intro hp.2.1 hp.2.2))))))
  obtain ⟨i0, hi, hz0, hz1, hz2⟩ := info_parts info_u8
  clear hb hc hn hf hp
  go_enter Try.func82, Try.ntmps82
  go_wp2_with (first | (go_at_call 108; go_must (refine (IsZero_any b 8 Z w H.out.1 H.out.2.2.2.2.2.2).mono ?_); rintro e w1 ⟨he, hE⟩; rw [if_pos hz] at he; subst he; have H1 := Lib.hid hE; clear hE) | (go_at_call 89; go_must (refine (errorsNew_any _ _).mono ?_); rintro e w2 ⟨⟨t, u, rfl⟩, hE2⟩))
  exact bodyPost_ret (v := .tuple #[.slice none 0 0, .iface t u]) (by simp [results, Try.results82, go_sem]) rfl ⟨⟨t, u, rfl⟩, H1.out.trans hE2⟩
set_option maxHeartbeats 1000000 in
set_option maxRecDepth 100000 in
theorem bytesX_aff (b c : Nat) (X Y Z : Fp) (w : World) (hb : b < w.heap.size) (hc : c < w.heap.size) (hn : b ≠ c) (hf : Free w c 0 32) (hp : Pnt w b 0 X Y Z) (hz : ¬ Z = 0) : Calls Try.prog 82 #[.pointer (some ⟨b, 0, none⟩), .pointer (some ⟨c, 0, none⟩)] w fun e w' => e = .returned (.tuple #[.slice (some ⟨c, 0, none⟩) 32 32, .nilIface]) ∧ Turned c 0 32 w w' ∧ Held .u8 w' c 0 (Bx (X * finv Z)) := by
  have H := Lib.hid (And.intro hb (And.intro hc (And.intro hn (And.intro hf (And.intro hp.1 (And.intro hp.2.1 hp.2.2))))))
  obtain ⟨i0, hi, hz0, hz1, hz2⟩ := info_parts info_u8
  clear hb hc hn hf hp
  go_enter Try.func82, Try.ntmps82
  go_wp2_with (first | (go_at_call 108; go_must (refine (IsZero_any b 8 Z w H.out.1 H.out.2.2.2.2.2.2).mono ?_); rintro e w1 ⟨he, hE⟩; rw [if_neg hz] at he; subst he; have H1 := Lib.hid hE; clear hE) | (go_at_call 109; go_must (refine (Invert_any' w1.heap.size 0 b 8 Z 0 (w1.alloc (.cells #[.int .u64 0, .int .u64 0, .int .u64 0, .int .u64 0] 111)) (by simp [size_alloc]) (size_al (H1.out.lt H.out.1) _) (Free.newWords (cs := #[.int .u64 0, .int .u64 0, .int .u64 0, .int .u64 0]) rfl rfl) (Elt.zero (len := 4) _ (heap_at w1 _ _ rfl) (by decide)) ((H1.out.elt H.out.1 H.out.2.2.2.2.2.2).alloc (H1.out.lt H.out.1) _)).mono ?_); rintro e w2 ⟨rfl, hT, hE⟩; have hE2 : Ext w w2 := H1.out.trans (Turned.ext_of_new (Ext.al w1 _) hT (Nat.le_refl _)); have hn2 : w1.heap.size < w2.heap.size := hT.lt (by simp [size_alloc]); have H2 := Lib.hid (And.intro hE2 (And.intro hn2 hE)); clear hT hE hE2 hn2) | (go_at_call 103; ((with_reducible refine (Elm_Mul w2.heap.size 0 b 0 w1.heap.size 0 X (finv Z) (w2.alloc (.cells #[.int .u64 0, .int .u64 0, .int .u64 0, .int .u64 0] 111)) (by simp [size_alloc]) (size_al (H2.out.1.lt H.out.1) _) (size_al H2.out.2.1 _) (Free.newWords (cs := #[.int .u64 0, .int .u64 0, .int .u64 0, .int .u64 0]) rfl rfl) ((H2.out.1.elt H.out.1 H.out.2.2.2.2.1).alloc (H2.out.1.lt H.out.1) _) (H2.out.2.2.alloc H2.out.2.1 _)).mono ?_); rintro e w3 ⟨rfl, hT, hE⟩; have hEE : Ext w w3 := H2.out.1.trans (Turned.ext_of_new (Ext.al w2 _) hT (Nat.le_refl _)); have hl0 : w1.heap.size < w3.heap.size := hT.lt (size_al H2.out.2.1 _); have he0 : Elt w3 w1.heap.size 0 (finv Z) := (H2.out.2.2.alloc H2.out.2.1 _).far hT (size_al H2.out.2.1 _) (.inl (Nat.ne_of_lt H2.out.2.1)); have hln : w2.heap.size < w3.heap.size := hT.lt (by simp [size_alloc]); have H3 := Lib.hid (And.intro hEE (And.intro hl0 (And.intro he0 (And.intro hln hE)))); clear hEE hl0 he0 hln hE; clear hT)))
  have hd1 : w2.heap.size < w3.drew.heap.size := H3.out.2.2.2.1
  have hd2 : Elt w3.drew w2.heap.size 0 (X * finv Z) := H3.out.2.2.2.2
  have HD := Lib.hid (And.intro hd1 hd2)
  clear hd1 hd2
  go_region_held3 (fun w' => True) (trivial) (first | (go_at_call 91; ((with_reducible refine (Bytes_any w2.heap.size 0 (X * finv Z) w3.drew HD.out.1 HD.out.2).mono ?_); rintro e w4 ⟨rfl, hE, hs, hB⟩; have hE4 : Ext w3 w4 := Ext.of_drew hE; have hB4 : Held .u8 w4 w3.heap.size 0 (Bx (X * finv Z)) := hB; have H4 := Lib.hid (And.intro hE4 hB4); clear hE hs hB hE4 hB4)) | ((refine step_append_held rfl _ _ 22 rfl 5 i0 Try.underlying22 hi hz1 (k := .u8) c 0 0 32 w3.heap.size 0 32 32 (Bx (X * finv Z)) rfl rfl (Bx_len _) H4.out.2 (by decide) (H4.out.1.free (H3.out.1.lt H.out.2.1) (H3.out.1.free H.out.2.1 H.out.2.2.2.1)) ?_); intro w5 hT hh; have H5 := Lib.hid (And.intro hT hh); clear hT hh))
  go_wp2
  have hT : Turned c 0 32 w w5 := ((Turned.refl c 0 32 w).ext_on H.out.2.1 (H3.out.1.trans H4.out.1)).trans (H5.out.1.part (by decide) (by decide))
  exact bodyPost_ret (v := .tuple #[.slice (some ⟨c, 0, none⟩) 32 32, .nilIface]) (by simp [results, Try.results82, go_sem]) rfl ⟨rfl, hT, H5.out.2⟩
def zx32 : Array Value := (List.replicate 32 (Value.int .u8 0)).toArray
set_option maxRecDepth 100000 in
theorem zerox32 : ∀ w, (zeroValue 31).run Try.prog w = .ok (.agg zx32) w := (zero_of_info (P := Try.prog) (n := 32) (by kernel_rfl)).1
theorem free_zx32 (w : World) : Free (w.alloc (.cells zx32 31)) w.heap.size 0 32 := Free.newWords (cs := zx32) rfl (by unfold zx32; decide +kernel)
attribute [irreducible] zx32
set_option maxHeartbeats 1000000 in
set_option maxRecDepth 100000 in
theorem BytesX_far (b : Nat) (X Y Z : Fp) (w : World) (hb : b < w.heap.size) (hp : Pnt w b 0 X Y Z) (hz : Z = 0) : Calls Try.prog 57 #[.pointer (some ⟨b, 0, none⟩)] w fun e w' => (∃ t u, e = .returned (.tuple #[.slice none 0 0, .iface t u])) ∧ Ext w w' := by
  have H := Lib.hid (And.intro hb (And.intro hp hz))
  clear hb hp hz
  go_enter Try.func57, Try.ntmps57
  go_wp2_with (first | (refine wpList_alloc_row rfl 31 _ rfl zerox32 ?_) | (go_at_call 82; go_must (refine (bytesX_far b w.heap.size X Y Z (w.alloc (.cells zx32 31)) ((size_al H.out.1 _)) (by simp [size_alloc]) (Nat.ne_of_lt H.out.1) (free_zx32 w) ((Ext.al w _).pnt H.out.1 H.out.2.1) H.out.2.2).mono ?_); rintro e w1 ⟨⟨t, u, rfl⟩, hE⟩; have H1 := Lib.hid hE; clear hE))
  exact bodyPost_ret (v := .tuple #[.slice none 0 0, .iface t u]) (by simp [results, Try.results57, go_sem]) rfl ⟨⟨t, u, rfl⟩, (Ext.al _ _).trans H1.out⟩
set_option maxHeartbeats 1000000 in
set_option maxRecDepth 100000 in
theorem BytesX_aff (b : Nat) (X Y Z : Fp) (w : World) (hb : b < w.heap.size) (hp : Pnt w b 0 X Y Z) (hz : ¬ Z = 0) : Calls Try.prog 57 #[.pointer (some ⟨b, 0, none⟩)] w fun e w' => e = .returned (.tuple #[.slice (some ⟨w.heap.size, 0, none⟩) 32 32, .nilIface]) ∧ w.heap.size < w'.heap.size ∧ Ext w w' ∧ Held .u8 w' w.heap.size 0 (Bx (X * finv Z)) := by
  have H := Lib.hid (And.intro hb (And.intro hp hz))
  clear hb hp hz
  go_enter Try.func57, Try.ntmps57
  go_wp2_with (first | (refine wpList_alloc_row rfl 31 _ rfl zerox32 ?_) | (go_at_call 82; go_must (refine (bytesX_aff b w.heap.size X Y Z (w.alloc (.cells zx32 31)) ((size_al H.out.1 _)) (by simp [size_alloc]) (Nat.ne_of_lt H.out.1) (free_zx32 w) ((Ext.al w _).pnt H.out.1 H.out.2.1) H.out.2.2).mono ?_); rintro e w1 ⟨rfl, hT, hh⟩; have H1 := Lib.hid (And.intro hT hh); clear hT hh))
  exact bodyPost_ret (v := .tuple #[.slice (some ⟨w.heap.size, 0, none⟩) 32 32, .nilIface]) (by simp [results, Try.results57, go_sem]) rfl ⟨rfl, H1.out.1.lt (by simp [size_alloc]), Turned.ext_of_new (Ext.al _ _) H1.out.1 (Nat.le_refl _), H1.out.2⟩
theorem XfarPt (b : Nat) (w : World) (hb : PtAt w b .far) : Calls Try.prog 57 #[.pointer (some ⟨b, 0, none⟩)] w fun e w' => (∃ t u, e = .returned (.tuple #[.slice none 0 0, .iface t u])) ∧ Ext w w' := by
  obtain ⟨h1, _, X, Y, Z, hp, _, e⟩ := hb
  refine BytesX_far b X Y Z w h1 hp ?_
  by_cases hz : Z = 0
  · exact hz
  · unfold affP at e
    rw [if_neg hz] at e
    cases e
theorem XaffPt (b : Nat) (x y : Fp) (w : World) (hb : PtAt w b (.aff x y)) : Calls Try.prog 57 #[.pointer (some ⟨b, 0, none⟩)] w fun e w' => e = .returned (.tuple #[.slice (some ⟨w.heap.size, 0, none⟩) 32 32, .nilIface]) ∧ w.heap.size < w'.heap.size ∧ Ext w w' ∧ Held .u8 w' w.heap.size 0 (Bx x) := by
  obtain ⟨h1, _, X, Y, Z, hp, _, e⟩ := hb
  by_cases hz : Z = 0
  · unfold affP at e
    rw [if_pos hz] at e
    cases e
  · have h := BytesX_aff b X Y Z w h1 hp hz
    unfold affP at e
    rw [if_neg hz] at e
    injection e with ex ey
    rw [ex] at h
    exact h
set_option maxHeartbeats 1000000 in
set_option maxRecDepth 100000 in
theorem iFirst_far (c o k : Nat) (l : List Int)  (w : World) (hc : c < w.heap.size) (hl : Held .u8 w c o l) (hP : Cod l .far) : Calls Try.prog 23 #[.slice (some ⟨c, o, none⟩) l.length k] w fun e w' => e = .returned (.tuple #[.slice none 0 0, .bool false, .bool true]) ∧ Ext w w' := by
  have H := Lib.hid (And.intro hc (And.intro hl hP))
  clear hc hl hP
  go_enter Try.func23, Try.ntmps23
  go_wp2_with (first | (go_at_call 56; (with_reducible refine (pointPt c o k l .far w H.out.1 H.out.2.1 H.out.2.2).mono ?_); rintro e w1 ⟨a, rfl, hg, hE, hp⟩; have H1 := Lib.hid (And.intro hg (And.intro hE hp)); clear hg hE hp) | (go_at_call 57; go_must (refine (XfarPt a w1 H1.out.2.2).mono ?_); rintro e w2 ⟨⟨t, u, rfl⟩, hE⟩; have H2 := Lib.hid hE; clear hE) | ((refine wp_grow (l := [_, _, _, _, _, _]) (by kernel_rfl) (by kernel_rfl) ?_; (try simp only [act_put_none]); (repeat ((go_big_quiet_want; go_big_quiet_op; go_big_quiet_on))); refine wpQuiet_nil ?_; intro _ hw'; obtain ⟨g', hw''⟩ := hw'; subst hw'')))
  exact bodyPost_ret (v := .tuple #[.slice none 0 0, .bool false, .bool true]) (by simp [results, Try.results23, go_sem]) rfl ⟨rfl, (H1.out.2.1.trans H2.out).trans (Ext.gr _ _)⟩
set_option maxHeartbeats 1000000 in
set_option maxRecDepth 100000 in
theorem iFirst_aff (c o k : Nat) (l : List Int) (x y : Fp) (w : World) (hc : c < w.heap.size) (hl : Held .u8 w c o l) (hP : Cod l (.aff x y)) : Calls Try.prog 23 #[.slice (some ⟨c, o, none⟩) l.length k] w fun e w' => ∃ g, e = .returned (.tuple #[.slice (some ⟨g, 0, none⟩) 32 32, .bool true, .bool true]) ∧ g < w'.heap.size ∧ Ext w w' ∧ Held .u8 w' g 0 (Bx x) := by
  have H := Lib.hid (And.intro hc (And.intro hl hP))
  clear hc hl hP
  go_enter Try.func23, Try.ntmps23
  go_wp2_with (first | (go_at_call 56; (with_reducible refine (pointPt c o k l (.aff x y) w H.out.1 H.out.2.1 H.out.2.2).mono ?_); rintro e w1 ⟨a, rfl, hg, hE, hp⟩; have H1 := Lib.hid (And.intro hg (And.intro hE hp)); clear hg hE hp) | (go_at_call 57; go_must (refine (XaffPt a x y w1 H1.out.2.2).mono ?_); rintro e w2 ⟨rfl, hl, hE, hh⟩; have H2 := Lib.hid (And.intro hl (And.intro hE hh)); clear hl hE hh) | ((refine wp_grow (l := [_, _, _, _, _, _]) (by kernel_rfl) (by kernel_rfl) ?_; (try simp only [act_put_none]); (repeat ((go_big_quiet_want; go_big_quiet_op; go_big_quiet_on))); refine wpQuiet_nil ?_; intro _ hw'; obtain ⟨g', hw''⟩ := hw'; subst hw'')))
  exact bodyPost_ret (v := .tuple #[.slice (some ⟨w1.heap.size, 0, none⟩) 32 32, .bool true, .bool true]) (by simp [results, Try.results23, go_sem]) rfl ⟨_, rfl, (Ext.gr _ _).lt H2.out.1, (H1.out.2.1.trans H2.out.2.1).trans (Ext.gr _ _), (Ext.gr _ _).held H2.out.1 H2.out.2.2⟩
end Go.Proofs.Ytmepgkcijeobkaa
