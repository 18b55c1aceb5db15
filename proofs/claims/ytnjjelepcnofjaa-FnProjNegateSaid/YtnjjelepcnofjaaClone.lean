/-
  What is proved here: slices.Clone of bytes returns a slice of its own with the same bytes.
  Conditions: those of the theorem.
-/
import Derived.Test.YtnjjelepcnofjaaProg
import Derived.Test.YtnjjelepcnofjaaMem
import Derived.WalkKit
import Derived.OwnWalk
import Derived.Laws.AppendOwn
import Derived.Lib.Hide
import Derived.Lib.SliceRun
namespace Go.Proofs.Ytnjjelepcnofjaa
open Go.RowKit
set_option linter.unusedSimpArgs false
set_option linter.unusedVariables false

theorem info_u8 : (Try.prog.info? 5).map (fun i => (i.zero, i.size, i.bytes)) = some (some (.int .u8 0), 1, 1) := by kernel_rfl
theorem eql_nil_slice (w : World) (a : Option Addr) (n c n' c' : Nat) : (binOp .eql 60 (.slice a n c) (.slice none n' c')).run Try.prog w = .ok (.bool a.isNone) w := by
  exact Lib.run_eql_slice_nil w _ _ a n c n' c' Try.underlying60

set_option maxHeartbeats 2000000 in
set_option maxRecDepth 100000 in
theorem Clone_any (b off n c : Nat) (l : Nat → Int) (w : World) (hn0 : 0 < n) (hn : n ≤ 100000000) (hc : ∀ j, j < n → w.cell? ⟨b, off + j, none⟩ = some (.int .u8 (l j))) :
    Calls Try.prog 29 #[.slice (some ⟨b, off, none⟩) n c] w fun e w' => ∃ g cap, e = .returned (.slice (some ⟨g, 0, none⟩) n cap) ∧ w.heap.size ≤ g ∧ g < w'.heap.size ∧ n ≤ cap ∧
      (∀ j, j < n → w'.cell? ⟨g, j, none⟩ = some (.int .u8 (l j))) ∧ (∀ o, w'.frozen? ⟨g, o, none⟩ = false) ∧ Ext w w' := by
  obtain ⟨i0, hi, hz0, hz1, hz2⟩ := info_parts info_u8
  have A : Hid (∀ j, j < n → w.cell? ⟨b, off + j, none⟩ = some (.int .u8 (l j))) := Lib.hid hc
  clear hc
  have q := eql_nil_slice
  go_enter Try.func29, Try.ntmps29
  go_wp2_with (at_builtin; refine wpList_append_own _ rfl _ _ 60 rfl w.heap.size 5 i0 (.int .u8 0) 1 1 Try.underlying60 hi hz0 hz1 hz2 rfl (by decide) _ _ _ rfl (World.ownsRow_made w #[] 0 (Nat.le_refl _) (Nat.zero_le _) rfl) ⟨b, off, none⟩ n c ((List.range n).map (fun j => Value.int .u8 (l j))) rfl ?qc1 ?qc2 ?qc3 ?qc4 ?qc5 ?qc6 ?_)
  case qc1 => simp
  case qc2 =>
    intro j u hj
    rw [List.getElem?_map] at hj
    obtain ⟨k, hk, rfl⟩ := Option.map_eq_some_iff.1 hj
    have hjn : j < n := by
      have := (List.getElem?_eq_some_iff.1 hk).1
      simpa using this
    rw [List.getElem?_range hjn] at hk
    obtain rfl := Option.some.inj hk
    rw [Addr.add_lit, World.cell?_alloc_old]
    · exact A.out j hjn
    · intro h
      have := A.out j hjn
      unfold World.cell? at this
      have h' : b = w.heap.size := h
      rw [Array.getElem?_eq_none (show w.heap.size ≤ b by omega)] at this
      cases this
  case qc3 => intro u hu; obtain ⟨x, _, rfl⟩ := List.mem_map.1 hu; rfl
  case qc4 => unfold maxLen; omega
  case qc5 => omega
  case qc6 => simp
  intro v' w1 hown hgrow hnil
  go_wp2
  go_ret
  have hown' : w1.ownsRow w.heap.size 5 1 v' n ((List.range n).map (fun j => Value.int .u8 (l j))) := by simpa using hown
  have hg : w.grownBy w1 none ∨ True := .inr trivial
  have hbel : Below w.heap.size w w1 := ((Below.refl _ w).alloc (Nat.le_refl _) _).grown hgrow (by simp) (by intro k hk; simp [Value.ownBlock] at hk; omega)
  obtain ⟨hlen, h0 | ⟨g, cap, cur, rfl, hbg, hh, hcap, _, hsz, htk⟩⟩ := hown'
  · omega
  · refine ⟨g, cap, rfl, hbg, ?_, hcap, ?_, ?_, Ext.of_below hbel⟩
    · rcases Nat.lt_or_ge g w1.heap.size with h | h
      · exact h
      · rw [Array.getElem?_eq_none h] at hh; cases hh
    · intro j hj
      unfold World.cell?
      rw [hh]
      have h1 : cur.toList[j]? = some (Value.int .u8 (l j)) := by
        have h2 : (cur.toList.take (n * 1))[j]? = some (Value.int .u8 (l j)) := by
          rw [htk, List.getElem?_map, List.getElem?_range hj]; rfl
        rw [List.getElem?_take] at h2
        split at h2
        · exact h2
        · cases h2
      simpa using h1
    · intro o
      unfold World.frozen?
      rw [hh]
      simp
end Go.Proofs.Ytnjjelepcnofjaa
