/-
  What is proved here: what the engine on elements needs of this program.
  Conditions: those of each theorem.
-/
import Derived.Test.YtmepgkcijeobkaaProg
import Derived.Test.YtmepgkcijeobkaaByuSet
import Derived.Test.YtmepgkcijeobkaaEngFEngGEngHEngI
import Derived.WalkKit
import Derived.WalkSpells
import Derived.Outline
import Derived.Handy
import Derived.ProofKit
import Derived.Deep.QuietTactic
import Derived.BigQuiet
import Derived.Lib.Hide
import Derived.OpenShut
namespace Go.Proofs.Ytmepgkcijeobkaa
open Go Go.RowKit Ecp
set_option linter.unusedSimpArgs false
set_option linter.unusedVariables false

theorem fpow_sq (x : Fp) (k : Nat) : fpow x (2 ^ k) * fpow x (2 ^ k) = fpow x (2 ^ (k + 1)) := by
  rw [← fpow_add]
  congr 1
  rw [Nat.pow_succ]
  omega
set_option maxHeartbeats 2000000 in
set_option maxRecDepth 100000 in
theorem Sqn_any (b o b1 o1 : Nat) (x : Fp) (z : Int) (w : World) (hz1 : 1 ≤ z) (hz2 : z < 1000) (hb : b < w.heap.size) (hb1 : b1 < w.heap.size) (hf : Free w b o 4) (h1 : Elt w b1 o1 x) :
    Calls Try.prog 116 #[.pointer (some ⟨b, o, none⟩), .pointer (some ⟨b1, o1, none⟩), .int .i64 z] w fun e w' => e = .returned (.tuple #[]) ∧ Turned b o 4 w w' ∧ Elt w' b o (fpow x (2 ^ z.toNat)) := by
  obtain ⟨n, rfl⟩ := Int.eq_ofNat_of_zero_le (show 0 ≤ z by omega)
  have H := Lib.hid (And.intro hb (And.intro hb1 (And.intro hf h1)))
  clear hb hb1 hf h1
  go_enter Try.func116, Try.ntmps116
  go_wp2_with (go_at_call 102; go_must (refine (Elm_Square b o b1 o1 x w H.out.1 H.out.2.1 H.out.2.2.1 H.out.2.2.2).mono ?_); rintro e w1 ⟨rfl, hT, hE⟩; have H1 := Lib.hid (And.intro hT hE); clear hT hE)
  go_loopw [6] (fun i wr => ∃ k : Nat, 1 ≤ k ∧ k ≤ n ∧ i = .int .i64 k ∧ Hid (Turned b o 4 w wr ∧ Elt wr b o (fpow x (2 ^ k)))) (fun i _ => n - (intOf i).toNat)
  case atStart =>
    refine ⟨1, by omega, by omega, rfl, Lib.hid ⟨H1.out.1, ?_⟩⟩
    have := H1.out.2
    rw [← fpow_two] at this
    exact this
  case round =>
    obtain ⟨k, hk1, hk, rfl, HR⟩ := hrel
    by_cases hlt : k < n
    · have hlt' : (k : Int) < (n : Int) := by omega
      go_wp2_with (go_at_call 102; go_must (refine (Elm_Square b o b o (fpow x (2 ^ k)) wr (HR.out.1.lt H.out.1) (HR.out.1.lt H.out.1) (H.out.2.2.1.turned HR.out.1 HR.out.2 H.out.1) HR.out.2).mono ?_); rintro e w2 ⟨rfl, hT, hE⟩; have H2 := Lib.hid (And.intro hT hE); clear hT hE)
      refine ⟨⟨k + 1, by omega, by omega, by go_num, Lib.hid ⟨HR.out.1.trans H2.out.1, ?_⟩⟩, by simp [intOf]; omega⟩
      have := H2.out.2
      rw [fpow_sq] at this
      exact this
    · obtain rfl : k = n := by omega
      have hlt' : ¬ (k : Int) < (k : Int) := by omega
      go_wp2
      refine bodyPost_end (results_none rfl _ _ _) rfl ⟨rfl, HR.out.1, ?_⟩
      exact HR.out.2

def kinds : List (Nat × FK) := [
  (92, .sel),
  (105, .b),
  (116, .sqn),
  (103, .mul),
  (104, .add),
  (90, .sub),
  (102, .sq),
  (85, .set),
  (86, .one)]
def flds : List (Nat × List (Nat × Nat)) := [
  (146, [(0, 0), (1, 4)]),
  (111, [(0, 0)]), (115, [(0, 0), (1, 4), (2, 8)])]
def DF : FD where
  kind := fun f => lookL kinds f
  fld := fun t k => match lookL flds t with
    | some l => lookL l k
    | none => none
  alc := fun t => lookL [(111, 4), (115, 12)] t
  ik := .i64

theorem beq_of {f g : Nat} (h : Nat.beq f g = true) : f = g := Nat.eq_of_beq_eq_true h

theorem kind_mul {f : Nat} (h : DF.kind f = some .mul) : f = 103 := by
  have := lookL_mem h
  simpa [kinds] using this
theorem kind_add {f : Nat} (h : DF.kind f = some .add) : f = 104 := by
  have := lookL_mem h
  simpa [kinds] using this
theorem kind_sub {f : Nat} (h : DF.kind f = some .sub) : f = 90 := by
  have := lookL_mem h
  simpa [kinds] using this
theorem kind_sq {f : Nat} (h : DF.kind f = some .sq) : f = 102 := by
  have := lookL_mem h
  simpa [kinds] using this
theorem kind_set {f : Nat} (h : DF.kind f = some .set) : f = 85 := by
  have := lookL_mem h
  simpa [kinds] using this
theorem kind_one {f : Nat} (h : DF.kind f = some .one) : f = 86 := by
  have := lookL_mem h
  simpa [kinds] using this
theorem kind_sel {f : Nat} (h : DF.kind f = some .sel) : f = 92 := by
  have := lookL_mem h
  simpa [kinds] using this
theorem kind_b {f : Nat} (h : DF.kind f = some .b) : f = 105 := by
  have := lookL_mem h
  simpa [kinds] using this
theorem kind_sqn {f : Nat} (h : DF.kind f = some .sqn) : f = 116 := by
  have := lookL_mem h
  simpa [kinds] using this

theorem SF : EngF Try.prog DF where
  fol := by kernel_rfl
  enter := fun f k h args w => by
    have H : ∀ p ∈ kinds, ∀ (args : Array Value) (w : World), (callFunc p.1 args).run Try.prog w = .ok (.enter p.1 args) w := by
      simp only [kinds, List.forall_mem_cons]
      (repeat' apply And.intro) <;> first | (intro args w; simp [go_sem]; done) | (intro p hp; cases hp)
    exact H (f, k) (lookL_mem h) args w
  hfld := fun t k off h b o w => by
    simp only [DF] at h
    split at h
    · rename_i l hl
      have h2 := lookL_mem h
      have H : ∀ p ∈ flds, ∀ q ∈ p.2, ∀ (b o : Nat) (w : World), (Instr.fieldAt p.1 (.pointer (some ⟨b, o, none⟩)) q.1).run Try.prog w = .ok (.pointer (some ⟨b, o + q.2, none⟩)) w := by
        simp only [flds, List.forall_mem_cons]
        (repeat' apply And.intro) <;> first | (intro b o w; simp [Instr.fieldAt, Instr.sureAddr, go_sem]; done) | (intro p hp; cases hp)
      exact H (t, l) (lookL_mem hl) (k, off) h2 b o w
    · cases h
  halc := fun t len h w => by
    have := lookL_mem h
    simp only [List.mem_cons, List.not_mem_nil, or_false, Prod.mk.injEq] at this
    rcases this with ⟨rfl, rfl⟩ | ⟨rfl, rfl⟩ <;> simp [Instr.alloc, newVar, go_sem]
  hmul := fun f h b o b1 o1 b2 o2 x y w h0 h1 h2 hf k1 k2 => by obtain rfl := kind_mul h; exact Elm_Mul b o b1 o1 b2 o2 x y w h0 h1 h2 hf k1 k2
  hadd := fun f h b o b1 o1 b2 o2 x y w h0 h1 h2 hf k1 k2 => by obtain rfl := kind_add h; exact Elm_Add b o b1 o1 b2 o2 x y w h0 h1 h2 hf k1 k2
  hsub := fun f h b o b1 o1 b2 o2 x y w h0 h1 h2 hf k1 k2 => by obtain rfl := kind_sub h; exact Elm_Sub b o b1 o1 b2 o2 x y w h0 h1 h2 hf k1 k2
  hsq := fun f h b o b1 o1 x w h0 h1 hf k1 => by obtain rfl := kind_sq h; exact Elm_Square b o b1 o1 x w h0 h1 hf k1
  hset := fun f h b o b1 o1 x w h0 h1 hf k1 => by obtain rfl := kind_set h; exact Elm_Set b o b1 o1 x w h0 h1 hf k1
  hone := fun f h b o w h0 hf => by obtain rfl := kind_one h; exact Elm_One b o w h0 hf
  hsel := fun f h b o b1 o1 b2 o2 x y z w hz h0 h1 h2 hf k1 k2 => by
    obtain rfl := kind_sel h
    rcases hz with rfl | rfl
    · rw [if_neg (by decide)]; exact Elm_Select0 b o b1 o1 b2 o2 x y w h0 h1 h2 hf k1 k2
    · rw [if_pos rfl]; exact Elm_Select1 b o b1 o1 b2 o2 x y w h0 h1 h2 hf k1 k2
  hB := fun f h w => by obtain rfl := kind_b h; exact p256B_any w
  hsqn := fun f h b o b1 o1 x z w hz1 hz2 h0 h1 hf k1 => by obtain rfl := kind_sqn h; exact Sqn_any b o b1 o1 x z w hz1 hz2 h0 h1 hf k1
end Go.Proofs.Ytmepgkcijeobkaa
