/-
  What is proved here: what the engine on elements needs of this program.
  Conditions: those of each theorem.
-/
import Derived.Test.YtgdjmgcolipcnaaProg
import Derived.Test.YtgdjmgcolipcnaaByuSet
import Derived.Test.YtgdjmgcolipcnaaEngFEngGEngHEngI
import Derived.WalkKit
import Derived.WalkSpells
import Derived.Outline
import Derived.Handy
import Derived.ProofKit
import Derived.Deep.QuietTactic
import Derived.BigQuiet
import Derived.Lib.Hide
import Derived.OpenShut
namespace Go.Proofs.Ytgdjmgcolipcnaa
open Go Go.RowKit Ecp
set_option linter.unusedSimpArgs false
set_option linter.unusedVariables false


def kinds : List (Nat × FK) := [
  (54, .sel),
  (51, .b),
  (49, .mul),
  (50, .add),
  (52, .sub),
  (48, .sq),
  (53, .set),
  (25, .one)]
def flds : List (Nat × List (Nat × Nat)) := [
  (62, [(0, 0)]), (64, [(0, 0), (1, 4), (2, 8)])]
def DF : FD where
  kind := fun f => lookL kinds f
  fld := fun t k => match lookL flds t with
    | some l => lookL l k
    | none => none
  alc := fun t => lookL [(62, 4), (64, 12)] t
  ik := .i64

theorem beq_of {f g : Nat} (h : Nat.beq f g = true) : f = g := Nat.eq_of_beq_eq_true h

theorem kind_mul {f : Nat} (h : DF.kind f = some .mul) : f = 49 := by
  have := lookL_mem h
  simpa [kinds] using this
theorem kind_add {f : Nat} (h : DF.kind f = some .add) : f = 50 := by
  have := lookL_mem h
  simpa [kinds] using this
theorem kind_sub {f : Nat} (h : DF.kind f = some .sub) : f = 52 := by
  have := lookL_mem h
  simpa [kinds] using this
theorem kind_sq {f : Nat} (h : DF.kind f = some .sq) : f = 48 := by
  have := lookL_mem h
  simpa [kinds] using this
theorem kind_set {f : Nat} (h : DF.kind f = some .set) : f = 53 := by
  have := lookL_mem h
  simpa [kinds] using this
theorem kind_one {f : Nat} (h : DF.kind f = some .one) : f = 25 := by
  have := lookL_mem h
  simpa [kinds] using this
theorem kind_sel {f : Nat} (h : DF.kind f = some .sel) : f = 54 := by
  have := lookL_mem h
  simpa [kinds] using this
theorem kind_b {f : Nat} (h : DF.kind f = some .b) : f = 51 := by
  have := lookL_mem h
  simpa [kinds] using this
theorem kind_sqn {f : Nat} (h : DF.kind f = some .sqn) : False := by
  have := lookL_mem h
  simp [kinds] at this

theorem SF : EngF Try.prog DF where
  fol := by kernel_rfl
  enter := fun f k h args w => by
    have H : ∀ p ∈ kinds, ∀ (args : Array Value) (w : World), (callFunc p.1 args).run Try.prog w = .ok (.enter p.1 args) w := by
      simp only [kinds, List.forall_mem_cons]
      (repeat' apply And.intro) <;> first | (intro args w; simp [go_sem]; done) | (intro p hp; cases hp)
    exact H (f, k) (lookL_mem h) args w
  hfld := fun t k off h b o w => by
    simp only [DF] at h
    split at h
    · rename_i l hl
      have h2 := lookL_mem h
      have H : ∀ p ∈ flds, ∀ q ∈ p.2, ∀ (b o : Nat) (w : World), (Instr.fieldAt p.1 (.pointer (some ⟨b, o, none⟩)) q.1).run Try.prog w = .ok (.pointer (some ⟨b, o + q.2, none⟩)) w := by
        simp only [flds, List.forall_mem_cons]
        (repeat' apply And.intro) <;> first | (intro b o w; simp [Instr.fieldAt, Instr.sureAddr, go_sem]; done) | (intro p hp; cases hp)
      exact H (t, l) (lookL_mem hl) (k, off) h2 b o w
    · cases h
  halc := fun t len h w => by
    have := lookL_mem h
    simp only [List.mem_cons, List.not_mem_nil, or_false, Prod.mk.injEq] at this
    rcases this with ⟨rfl, rfl⟩ | ⟨rfl, rfl⟩ <;> simp [Instr.alloc, newVar, go_sem]
  hmul := fun f h b o b1 o1 b2 o2 x y w h0 h1 h2 hf k1 k2 => by obtain rfl := kind_mul h; exact Elm_Mul b o b1 o1 b2 o2 x y w h0 h1 h2 hf k1 k2
  hadd := fun f h b o b1 o1 b2 o2 x y w h0 h1 h2 hf k1 k2 => by obtain rfl := kind_add h; exact Elm_Add b o b1 o1 b2 o2 x y w h0 h1 h2 hf k1 k2
  hsub := fun f h b o b1 o1 b2 o2 x y w h0 h1 h2 hf k1 k2 => by obtain rfl := kind_sub h; exact Elm_Sub b o b1 o1 b2 o2 x y w h0 h1 h2 hf k1 k2
  hsq := fun f h b o b1 o1 x w h0 h1 hf k1 => by obtain rfl := kind_sq h; exact Elm_Square b o b1 o1 x w h0 h1 hf k1
  hset := fun f h b o b1 o1 x w h0 h1 hf k1 => by obtain rfl := kind_set h; exact Elm_Set b o b1 o1 x w h0 h1 hf k1
  hone := fun f h b o w h0 hf => by obtain rfl := kind_one h; exact Elm_One b o w h0 hf
  hsel := fun f h b o b1 o1 b2 o2 x y z w hz h0 h1 h2 hf k1 k2 => by
    obtain rfl := kind_sel h
    rcases hz with rfl | rfl
    · rw [if_neg (by decide)]; exact Elm_Select0 b o b1 o1 b2 o2 x y w h0 h1 h2 hf k1 k2
    · rw [if_pos rfl]; exact Elm_Select1 b o b1 o1 b2 o2 x y w h0 h1 h2 hf k1 k2
  hB := fun f h w => by obtain rfl := kind_b h; exact p256B_any w
  hsqn := fun f h => (kind_sqn h).elim
end Go.Proofs.Ytgdjmgcolipcnaa
