/-
  What is proved here: whether bytes are the same ones, as the laws ask it.
  Conditions: those of each theorem.
-/
import Derived.Test.YtmepgkcijeobkaaProg
import Derived.Test.YtmepgkcijeobkaaBysCod
import Derived.Laws.IdiomStrings
import Derived.WalkKit
import Derived.WalkSpells
import Derived.Outline
import Derived.Handy
import Derived.ProofKit
import Derived.Lib.Hide
import Derived.Test.YtmepgkcijeobkaaWri
import Derived.Deep.QuietTactic
import Derived.BigQuiet
import Derived.OpenShut
namespace Go.Proofs.Ytmepgkcijeobkaa
open Go Go.RowKit Ecp
set_option linter.unusedSimpArgs false
set_option linter.unusedVariables false

def u8s (l : List Int) : List UInt8 := l.map fun x => UInt8.ofNat x.toNat
theorem u8s_len (l : List Int) : (u8s l).length = l.length := by simp [u8s]
theorem u8_back {x : Int} (h : 0 ≤ x ∧ x < 256) : ((UInt8.ofNat x.toNat).toNat : Int) = x := by
  have : x.toNat < 256 := by omega
  rw [UInt8.toNat_ofNat_of_lt' (by simpa using this)]
  omega
theorem u8s_inj : ∀ {l m : List Int}, (∀ x ∈ l, 0 ≤ x ∧ x < 256) → (∀ x ∈ m, 0 ≤ x ∧ x < 256) → u8s l = u8s m → l = m
  | [], [], _, _, _ => rfl
  | [], y :: m, _, _, h => by simp [u8s] at h
  | x :: l, [], _, _, h => by simp [u8s] at h
  | x :: l, y :: m, hl, hm, h => by
    unfold u8s at h
    rw [List.map_cons, List.map_cons] at h
    injection h with h1 h2
    have e1 := u8_back (hl x (by simp))
    rw [h1, u8_back (hm y (by simp))] at e1
    rw [e1, u8s_inj (fun z hz => hl z (by simp [hz])) (fun z hz => hm z (by simp [hz])) h2]
theorem strU_eq {l m : List Int} (hl : ∀ x ∈ l, 0 ≤ x ∧ x < 256) (hm : ∀ x ∈ m, 0 ≤ x ∧ x < 256) : ((⟨(u8s l).toArray⟩ : ByteArray) = ⟨(u8s m).toArray⟩) ↔ l = m := by
  constructor
  · intro h
    injection h with h
    exact u8s_inj hl hm (by simpa using congrArg Array.toList h)
  · rintro rfl; rfl

theorem conv_held (c o k : Nat) (l : List Int) (w : World) (hl : Held .u8 w c o l) (hb : ∀ x ∈ l, 0 ≤ x ∧ x < 256) : (convert 22 9 (.slice (some ⟨c, o, none⟩) l.length k)).run Try.prog w = .ok (.string ⟨(u8s l).toArray⟩) w := by
  have h := run_convert_bytes_back (P := Try.prog) w 22 9 5 ⟨c, o, none⟩ k (u8s l) Try.underlying22 Try.underlying5 Try.underlying9 (fun j hj => by
    have hj' : j < l.length := by rw [u8s_len] at hj; exact hj
    have e : l[j]? = some l[j] := List.getElem?_eq_getElem hj'
    have h2 := hl j _ e
    rw [Addr.add_lit, h2]
    have e2 : (u8s l)[j] = UInt8.ofNat (l[j]).toNat := by simp [u8s]
    rw [e2, u8_back (hb _ (List.getElem_mem hj'))])
  rw [u8s_len] at h
  exact h
set_option maxHeartbeats 1000000 in
set_option maxRecDepth 100000 in
theorem same_any (c o k c2 o2 k2 : Nat) (l l2 : List Int) (w : World) (hl : Held .u8 w c o l) (hb : ∀ x ∈ l, 0 ≤ x ∧ x < 256) (hl2 : Held .u8 w c2 o2 l2) (hb2 : ∀ x ∈ l2, 0 ≤ x ∧ x < 256) :
    Calls Try.prog 25 #[.slice (some ⟨c, o, none⟩) l.length k, .slice (some ⟨c2, o2, none⟩) l2.length k2] w fun e w' => e = .returned (.bool (decide (l = l2))) ∧ Ext w w' := by
  have q1 := conv_held c o k l w hl hb
  have q2 := conv_held c2 o2 k2 l2 w hl2 hb2
  have q3 : (u8s l == u8s l2) = decide (l = l2) := by
    by_cases h : l = l2
    · subst h; simp
    · have h2 : ¬ u8s l = u8s l2 := fun e => h (u8s_inj hb hb2 e)
      simp [h, h2]
  clear hl hb hl2 hb2
  go_enter Try.func25, Try.ntmps25
  go_wp2
  exact bodyPost_ret (v := .bool (decide (l = l2))) (by rw [← q3]; simp [results, Try.results25, go_sem]) rfl ⟨rfl, Ext.refl _⟩
end Go.Proofs.Ytmepgkcijeobkaa
/-
  What is proved here: whether bytes are what is told of a point.
  Conditions: those of each theorem.
-/
namespace Go.Proofs.Ytmepgkcijeobkaa
open Go Go.RowKit Ecp
set_option linter.unusedSimpArgs false
set_option linter.unusedVariables false

set_option maxHeartbeats 1000000 in
set_option maxRecDepth 100000 in
theorem is_any (c o k : Nat) (l : List Int) (p : Pt) (w : World) (hc : c < w.heap.size) (hl : Held .u8 w c o l) (hb : ∀ x ∈ l, 0 ≤ x ∧ x < 256) : Calls Try.prog 29 #[.slice (some ⟨c, o, none⟩) l.length k, .agg (pv p)] w fun e w' => e = .returned (.bool (decide (l = wrL p))) ∧ Ext w w' := by
  have H := Lib.hid (And.intro hc (And.intro hl (And.intro hb (wrL_bd p))))
  have HI := Lib.hid (show (Try.prog.info? 26).map (·.size) = some (pv p).size by cases p <;> exact inP _ _ _)
  clear hc hl hb
  go_enter Try.func29, Try.ntmps29
  go_wp2_with (first
    | (refine wpList_load_rowW rfl 26 _ rfl _ rfl _ (pv p) _ _ (heap_at w _ _ rfl) Try.underlying26 rfl HI.out ?_)
    | (go_at_call 26; go_must (refine (Written_any p (w.alloc (.cells (pv p) 26))).mono ?_); rintro e w1 ⟨g, k1, rfl, hg, hE, hh⟩; have H1 := Lib.hid (And.intro hg (And.intro ((Ext.al w _).trans hE) hh)); clear hg hE hh)
    | (go_at_call 25; go_must (refine (same_any c o k g 0 k1 l (wrL p) w1 (H1.out.2.1.held H.out.1 H.out.2.1) H.out.2.2.1 H1.out.2.2 H.out.2.2.2).mono ?_); rintro e w2 ⟨rfl, hE⟩; have H2 := Lib.hid hE; clear hE)
    | fail)
  exact bodyPost_ret (v := .bool (decide (l = wrL p))) (by simp [results, Try.results29, go_sem]) rfl ⟨rfl, H1.out.2.1.trans H2.out⟩
end Go.Proofs.Ytmepgkcijeobkaa
