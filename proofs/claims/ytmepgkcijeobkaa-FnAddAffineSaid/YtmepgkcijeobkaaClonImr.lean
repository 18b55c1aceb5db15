/-
  What is proved here: what slices.Clone returns at longer slices, and at empty ones.
  Conditions: those of each theorem.
-/
import Derived.Test.YtmepgkcijeobkaaClonePrjA
import Derived.Test.YtmepgkcijeobkaaImpBad
import Derived.Test.YtmepgkcijeobkaaImq
import Derived.Test.YtmepgkcijeobkaaProg
import Derived.Test.YtmepgkcijeobkaaNumRegMem
import Derived.WalkKit
import Derived.OwnWalk
import Derived.Laws.AppendOwn
import Derived.Lib.Hide
import Derived.Lib.SliceRun
import Derived.WalkSpells
import Derived.Outline
import Derived.Handy
import Derived.ProofKit
import Derived.Deep.QuietTactic
import Derived.BigQuiet
import Derived.OpenShut
namespace Go.Proofs.Ytmepgkcijeobkaa
open Go.RowKit
set_option linter.unusedSimpArgs false
set_option linter.unusedVariables false

set_option maxHeartbeats 2000000 in
set_option maxRecDepth 100000 in
theorem Clone2_any (b off n c : Nat) (l : Nat → Int) (w : World) (hn0 : 0 < n) (hn : n ≤ 2147483647) (hc : ∀ j, j < n → w.cell? ⟨b, off + j, none⟩ = some (.int .u8 (l j))) :
    Calls Try.prog 59 #[.slice (some ⟨b, off, none⟩) n c] w fun e w' => ∃ g cap, e = .returned (.slice (some ⟨g, 0, none⟩) n cap) ∧ w.heap.size ≤ g ∧ g < w'.heap.size ∧ n ≤ cap ∧
      (∀ j, j < n → w'.cell? ⟨g, j, none⟩ = some (.int .u8 (l j))) ∧ (∀ o, w'.frozen? ⟨g, o, none⟩ = false) ∧ Ext w w' := by
  obtain ⟨i0, hi, hz0, hz1, hz2⟩ := info_parts info_u8
  have A : Hid (∀ j, j < n → w.cell? ⟨b, off + j, none⟩ = some (.int .u8 (l j))) := Lib.hid hc
  clear hc
  have q := eql_nil_slice
  go_enter Try.func59, Try.ntmps59
  go_wp2_with (at_builtin; refine wpList_append_own _ rfl _ _ 22 rfl w.heap.size 5 i0 (.int .u8 0) 1 1 Try.underlying22 hi hz0 hz1 hz2 rfl (by decide) _ _ _ rfl (World.ownsRow_made w #[] 0 (Nat.le_refl _) (Nat.zero_le _) rfl) ⟨b, off, none⟩ n c ((List.range n).map (fun j => Value.int .u8 (l j))) rfl ?qc1 ?qc2 ?qc3 ?qc4 ?qc5 ?qc6 ?_)
  case qc1 => simp
  case qc2 =>
    intro j u hj
    rw [List.getElem?_map] at hj
    obtain ⟨k, hk, rfl⟩ := Option.map_eq_some_iff.1 hj
    have hjn : j < n := by
      have := (List.getElem?_eq_some_iff.1 hk).1
      simpa using this
    rw [List.getElem?_range hjn] at hk
    obtain rfl := Option.some.inj hk
    rw [Addr.add_lit, World.cell?_alloc_old]
    · exact A.out j hjn
    · intro h
      have := A.out j hjn
      unfold World.cell? at this
      have h' : b = w.heap.size := h
      rw [Array.getElem?_eq_none (show w.heap.size ≤ b by omega)] at this
      cases this
  case qc3 => intro u hu; obtain ⟨x, _, rfl⟩ := List.mem_map.1 hu; rfl
  case qc4 => unfold maxLen; omega
  case qc5 => omega
  case qc6 => simp
  intro v' w1 hown hgrow hnil
  go_wp2
  go_ret
  have hown' : w1.ownsRow w.heap.size 5 1 v' n ((List.range n).map (fun j => Value.int .u8 (l j))) := by simpa using hown
  have hg : w.grownBy w1 none ∨ True := .inr trivial
  have hbel : Below w.heap.size w w1 := ((Below.refl _ w).alloc (Nat.le_refl _) _).grown hgrow (by simp) (by intro k hk; simp [Value.ownBlock] at hk; omega)
  obtain ⟨hlen, h0 | ⟨g, cap, cur, rfl, hbg, hh, hcap, _, hsz, htk⟩⟩ := hown'
  · omega
  · refine ⟨g, cap, rfl, hbg, ?_, hcap, ?_, ?_, Ext.of_below hbel⟩
    · rcases Nat.lt_or_ge g w1.heap.size with h | h
      · exact h
      · rw [Array.getElem?_eq_none h] at hh; cases hh
    · intro j hj
      unfold World.cell?
      rw [hh]
      have h1 : cur.toList[j]? = some (Value.int .u8 (l j)) := by
        have h2 : (cur.toList.take (n * 1))[j]? = some (Value.int .u8 (l j)) := by
          rw [htk, List.getElem?_map, List.getElem?_range hj]; rfl
        rw [List.getElem?_take] at h2
        split at h2
        · exact h2
        · cases h2
      simpa using h1
    · intro o
      unfold World.frozen?
      rw [hh]
      simp
set_option maxHeartbeats 2000000 in
set_option maxRecDepth 100000 in
theorem Clone0_nil (c : Nat) (w : World) :
    Calls Try.prog 59 #[.slice none 0 c] w fun e w' => (∃ ao k, e = .returned (.slice ao 0 k)) ∧ Ext w w' := by
  have q := eql_nil_slice
  go_enter Try.func59, Try.ntmps59
  go_wp2
  go_ret
  exact ⟨⟨_, _, rfl⟩, Ext.refl _⟩
set_option maxHeartbeats 2000000 in
set_option maxRecDepth 100000 in
theorem Clone0_any (ad : Addr) (c : Nat) (w : World) :
    Calls Try.prog 59 #[.slice (some ad) 0 c] w fun e w' => (∃ ao k, e = .returned (.slice ao 0 k)) ∧ Ext w w' := by
  obtain ⟨i0, hi, hz0, hz1, hz2⟩ := info_parts info_u8
  have q := eql_nil_slice
  go_enter Try.func59, Try.ntmps59
  go_wp2_with (at_builtin; refine wpList_append_own _ rfl _ _ 22 rfl w.heap.size 5 i0 (.int .u8 0) 1 1 Try.underlying22 hi hz0 hz1 hz2 rfl (by decide) _ _ _ rfl (World.ownsRow_made w #[] 0 (Nat.le_refl _) (Nat.zero_le _) rfl) ad 0 c [] rfl ?qc1 ?qc2 ?qc3 ?qc4 ?qc5 ?qc6 ?_)
  all_goals (first | (intro v' w1 hown hgrow hnil) | skip)
  case qc1 => simp
  case qc2 => intro j u hj; simp at hj
  case qc3 => intro u hu; simp at hu
  case qc4 => unfold maxLen; omega
  case qc5 => omega
  case qc6 => simp
  go_wp2
  go_ret
  have hbel : Below w.heap.size w w1 := ((Below.refl _ w).alloc (Nat.le_refl _) _).grown hgrow (by simp) (by intro k hk; simp [Value.ownBlock] at hk; omega)
  obtain ⟨hlen, h0 | ⟨g, cap, cur, rfl, hbg, hh, hcap, _, hsz, htk⟩⟩ := hown
  · exact absurd h0.1 hnil
  · exact ⟨⟨_, _, rfl⟩, Ext.of_below hbel⟩
end Go.Proofs.Ytmepgkcijeobkaa
/-
  What is proved here: what the thin package's functions return at bytes that tell no point; a point that is kept.
  Conditions: those of each theorem.
-/
namespace Go.Proofs.Ytmepgkcijeobkaa
open Go Go.RowKit Ecp
set_option linter.unusedSimpArgs false
set_option linter.unusedVariables false

/-- A slice that tells no point: by bytes, empty, or nil. -/
def NoPt (w : World) (s : Value) : Prop := (∃ c o k l, s = .slice (some ⟨c, o, none⟩) (l : List Int).length k ∧ c < w.heap.size ∧ Held .u8 w c o l ∧ 0 < l.length ∧ l.length ≤ 2147483647 ∧ (∀ x ∈ l, 0 ≤ x ∧ x < 256) ∧ ∀ P, ¬ Cod l P) ∨ (∃ (a : Addr) (k : Nat), s = .slice (some a) 0 k) ∨ ∃ k, s = .slice none 0 k
theorem Ext.noPt {u v : World} (h : Ext u v) {s : Value} (hs : NoPt u s) : NoPt v s := by
  rcases hs with ⟨c, o, k, l, rfl, h1, h2, h3⟩ | h2 | h3
  · exact .inl ⟨c, o, k, l, rfl, h.lt h1, h.held h1 h2, h3⟩
  · exact .inr (.inl h2)
  · exact .inr (.inr h3)
/-- What Clone gives of such a slice. -/
def NoCl (w : World) (s : Value) : Prop := (∃ g k l, s = .slice (some ⟨g, 0, none⟩) (l : List Int).length k ∧ g < w.heap.size ∧ Held .u8 w g 0 l ∧ l.length ≤ k ∧ (∀ x ∈ l, 0 ≤ x ∧ x < 256) ∧ ∀ P, ¬ Cod l P) ∨ ∃ ao k, s = .slice ao 0 k
theorem CloneNo (s : Value) (w : World) (hs : NoPt w s) : Calls Try.prog 59 #[s] w fun e w' => ∃ s', e = .returned s' ∧ Ext w w' ∧ NoCl w' s' := by
  rcases hs with ⟨c, o, k, l, rfl, h1, h2, h3, h4, h5, h6⟩ | ⟨a, k, rfl⟩ | ⟨k, rfl⟩
  · refine (Clone2_any c o l.length k (fun j => l.getD j 0) w h3 h4 (cells_held h2)).mono ?_
    rintro e w' ⟨g, k1, rfl, hg, hg2, hk1, hc2, hfz, hE⟩
    exact ⟨_, rfl, hE, .inl ⟨g, k1, l, rfl, hg2, held_cells hc2, hk1, h5, h6⟩⟩
  · refine (Clone0_any a k w).mono ?_
    rintro e w' ⟨⟨ao, k1, rfl⟩, hE⟩
    exact ⟨_, rfl, hE, .inr ⟨ao, k1, rfl⟩⟩
  · refine (Clone0_nil k w).mono ?_
    rintro e w' ⟨⟨ao, k1, rfl⟩, hE⟩
    exact ⟨_, rfl, hE, .inr ⟨ao, k1, rfl⟩⟩
theorem SBNo (q : Nat) (R : Pt) (s : Value) (w : World) (hq : PtAt w q R) (hs : NoCl w s) : Calls Try.prog 58 #[.pointer (some ⟨q, 0, none⟩), s] w fun e w' => (∃ t u, e = .returned (.tuple #[.pointer none, .iface t u])) ∧ Ext w w' := by
  rcases hs with ⟨g, k, l, rfl, h1, h2, h3, h4, h5⟩ | ⟨ao, k, rfl⟩
  · exact SBB_any q g k l w hq.1 h1 hq.2.1 h2 h4 h5 h3
  · exact SB_def q k ao w 0 (by decide) (by decide) (by decide)
theorem SBPt (q c k : Nat) (l : List Int) (R p : Pt) (w : World) (hq : PtAt w q R) (hc : c < w.heap.size) (hl : Held .u8 w c 0 l) (hP : Cod l p) (hk : l.length ≤ k) : Calls Try.prog 58 #[.pointer (some ⟨q, 0, none⟩), .slice (some ⟨c, 0, none⟩) l.length k] w fun e w' => e = .returned (.tuple #[.pointer (some ⟨q, 0, none⟩), .nilIface]) ∧ Turned q 0 12 w w' ∧ PtAt w' q p := by
  refine (SBG_any q c k l p w hq.1 hc hq.2.1 hl hP hk).mono ?_
  rintro e w' ⟨rfl, hT, hP⟩
  exact ⟨rfl, hT, hT.lt hq.1, hq.2.1.hp hT hP hq.1, hP⟩
set_option maxHeartbeats 1000000 in
set_option maxRecDepth 100000 in
theorem pointNo (s : Value) (w : World) (hs : NoPt w s) : Calls Try.prog 56 #[s] w fun e w' => e = .returned (.tuple #[.pointer none, .bool false]) ∧ Ext w w' := by
  have H := Lib.hid hs
  clear hs
  go_enter Try.func56, Try.ntmps56
  go_wp2_with (first | (go_at_call 66; (with_reducible refine (NewPt w).mono ?_); rintro e w1 ⟨rfl, hE, hp⟩; have H1 := Lib.hid (And.intro hE hp); clear hE hp) | (go_at_call 59; (with_reducible refine (CloneNo s w1 (H1.out.1.noPt H.out)).mono ?_); rintro e w2 ⟨s', rfl, hE, hs'⟩; have H2 := Lib.hid (And.intro hE hs'); clear hE hs') | (go_at_call 58; (with_reducible refine (SBNo w.heap.size .far s' w2 (H2.out.1.pt H1.out.2) H2.out.2).mono ?_); rintro e w3 ⟨⟨t, u, rfl⟩, hE⟩; have H3 := Lib.hid hE; clear hE) | ((refine wp_grow (l := [_, _, _, _, _]) (by kernel_rfl) (by kernel_rfl) ?_; (try simp only [act_put_none]); (repeat ((go_big_quiet_want; go_big_quiet_op; go_big_quiet_on))); refine wpQuiet_nil ?_; intro _ hw'; obtain ⟨g', hw''⟩ := hw'; subst hw'')))
  exact bodyPost_ret (v := .tuple #[.pointer none, .bool false]) (by simp [results, Try.results56, go_sem]) rfl ⟨rfl, ((H1.out.1.trans H2.out.1).trans H3.out).trans (Ext.gr _ _)⟩
end Go.Proofs.Ytmepgkcijeobkaa
