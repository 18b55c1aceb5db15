/-
  What is proved here: what the point's methods return, by the engine on elements.
  Conditions: those of each theorem.
-/
import Derived.Test.YtgdjmgcolipcnaaProg
import Derived.Test.YtgdjmgcolipcnaaInstP
import Derived.Test.YtgdjmgcolipcnaaSeqA
import Derived.WalkKit
import Derived.WalkSpells
import Derived.Outline
import Derived.Handy
import Derived.ProofKit
import Derived.Deep.QuietTactic
import Derived.BigQuiet
import Derived.Lib.Hide
import Derived.OpenShut
namespace Go.Proofs.Ytgdjmgcolipcnaa
open Go Go.RowKit Ecp
set_option linter.unusedSimpArgs false
set_option linter.unusedVariables false

/-- Twelve words hold three coordinates. -/
def Pnt (w : World) (b o : Nat) (X Y Z : Fp) : Prop := Elt w b o X ∧ Elt w b (o + 4) Y ∧ Elt w b (o + 8) Z
theorem Pnt.far {w w' : World} {b o b' o' len : Nat} {X Y Z : Fp} (h : Pnt w b o X Y Z) (hT : Turned b' o' len w w') (hb : b < w.heap.size) (hd : b ≠ b' ∨ o + 12 ≤ o' ∨ o' + len ≤ o) : Pnt w' b o X Y Z :=
  ⟨h.1.far hT hb (by omega), h.2.1.far hT hb (by omega), h.2.2.far hT hb (by omega)⟩
theorem Ext.pnt {u v : World} (h : Ext u v) {b o : Nat} {X Y Z : Fp} (hb : b < u.heap.size) (hh : Pnt u b o X Y Z) : Pnt v b o X Y Z := ⟨h.elt hb hh.1, h.elt hb hh.2.1, h.elt hb hh.2.2⟩

section
variable {P : Program} {D : FD} {β γ : Nat → Nat} {ins : Nat → Fp} {nin np0 : Nat} {w : World} {st : FSt}
theorem engF_pts (S : EngF P D) {f : FuncId} {fn : Func} {args : Array Value} {t : Nat} {ds : List FEx} {iX iY iZ : Nat} (hf : P.funcs[f]? = some fn) (hres : fn.results = #[.tmp t])
    (hrun : (fn.body.bind fun c => (runCF D nin np0 12 c st).map fun p => (p.1.defs, lookP p.1.mem 0 0, lookP p.1.mem 0 4, lookP p.1.mem 0 8, lookL p.1.env t)) = some (ds, some iX, some iY, some iZ, some (.ptr 0 0)))
    (hpos : 0 < np0) (R : FR β γ ins nin np0 12 12 w st { tmps := args ++ Array.replicate (fn.ntmps - args.size) undef, defers := [] } w) :
    Calls P f args w fun e w' => e = .returned (.pointer (some ⟨β 0, γ 0, none⟩)) ∧ Turned (β 0) (γ 0) 12 w w' ∧ Pnt w' (β 0) (γ 0) (denF ins nin ds iX) (denF ins nin ds iY) (denF ins nin ds iZ) := by
  cases hb : fn.body with
  | none => rw [hb] at hrun; simp at hrun
  | some c =>
    rw [hb] at hrun
    simp only [Option.bind_some] at hrun
    obtain ⟨⟨st', r⟩, hr, he⟩ := Option.map_eq_some_iff.1 hrun
    simp only [Prod.mk.injEq] at he
    obtain ⟨hd, hX, hY, hZ, hv⟩ := he
    refine (engF_call S hf hb hres hr hv R).mono ?_
    rintro e w' ⟨β', γ', a', rfl, hp, R'⟩
    obtain ⟨e1, e2⟩ := hp 0 hpos
    have k1 := (R'.mem 0 0 iX hX).2.2.2.2
    have k2 := (R'.mem 0 4 iY hY).2.2.2.2
    have k3 := (R'.mem 0 8 iZ hZ).2.2.2.2
    have k4 := R'.trn
    rw [e1, e2, hd] at k1 k2 k3
    rw [e1, e2] at k4
    exact ⟨by simp only [FV.val, e1, e2, Nat.add_zero], k4, k1, k2, k3⟩
theorem engF_elt (S : EngF P D) {f : FuncId} {fn : Func} {args : Array Value} {t : Nat} {ds : List FEx} {iX : Nat} (hf : P.funcs[f]? = some fn) (hres : fn.results = #[.tmp t])
    (hrun : (fn.body.bind fun c => (runCF D nin np0 4 c st).map fun p => (p.1.defs, lookP p.1.mem 0 0, lookL p.1.env t)) = some (ds, some iX, some (.ptr 0 0)))
    (hpos : 0 < np0) (R : FR β γ ins nin np0 4 4 w st { tmps := args ++ Array.replicate (fn.ntmps - args.size) undef, defers := [] } w) :
    Calls P f args w fun e w' => e = .returned (.pointer (some ⟨β 0, γ 0, none⟩)) ∧ Turned (β 0) (γ 0) 4 w w' ∧ Elt w' (β 0) (γ 0) (denF ins nin ds iX) := by
  cases hb : fn.body with
  | none => rw [hb] at hrun; simp at hrun
  | some c =>
    rw [hb] at hrun
    simp only [Option.bind_some] at hrun
    obtain ⟨⟨st', r⟩, hr, he⟩ := Option.map_eq_some_iff.1 hrun
    simp only [Prod.mk.injEq] at he
    obtain ⟨hd, hX, hv⟩ := he
    refine (engF_call S hf hb hres hr hv R).mono ?_
    rintro e w' ⟨β', γ', a', rfl, hp, R'⟩
    obtain ⟨e1, e2⟩ := hp 0 hpos
    have k1 := (R'.mem 0 0 iX hX).2.2.2.2
    have k4 := R'.trn
    rw [e1, e2, hd] at k1
    rw [e1, e2] at k4
    exact ⟨by simp only [FV.val, e1, e2, Nat.add_zero], k4, k1⟩
end

/-- Two places are one, or lie apart. -/
def Apart (b o b1 o1 len : Nat) : Prop := b1 ≠ b ∨ (true = true ∧ o1 = o) ∨ o1 + len ≤ o ∨ o + len ≤ o1
def Apart0 (b o b1 o1 len : Nat) : Prop := b1 ≠ b ∨ (false = true ∧ o1 = o) ∨ o1 + len ≤ o ∨ o + len ≤ o1
theorem apart_ne {b o b1 o1 len : Nat} (h : b1 ≠ b) : Apart b o b1 o1 len := .inl h
theorem apart_self {b o len : Nat} : Apart b o b o len := .inr (.inl ⟨rfl, rfl⟩)
theorem apart0_ne {b o b1 o1 len : Nat} (h : b1 ≠ b) : Apart0 b o b1 o1 len := .inl h

set_option maxRecDepth 1000000 in
theorem runF_add : ((Try.f33.body).bind fun c => (runCF DF 6 3 12 c { sz := Try.f33.ntmps, np := 3, env := [(0, .ptr 0 0), (1, .ptr 1 0), (2, .ptr 2 0)], defs := [], mem := [((1, 0), 0), ((1, 4), 1), ((1, 8), 2), ((2, 0), 3), ((2, 4), 4), ((2, 8), 5)], lens := [], al := true }).map fun p => (p.1.defs, lookP p.1.mem 0 0, lookP p.1.mem 0 4, lookP p.1.mem 0 8, lookL p.1.env 6)) =
    some (defsF_add, some 55, some 53, some 58, some (.ptr 0 0)) := by kernel_rfl

theorem Add_any (b o b1 o1 b2 o2 : Nat) (X1 Y1 Z1 X2 Y2 Z2 : Fp) (w : World) (hb : b < w.heap.size) (hb1 : b1 < w.heap.size) (hb2 : b2 < w.heap.size) (hf : Free w b o 12) (h1 : Pnt w b1 o1 X1 Y1 Z1) (h2 : Pnt w b2 o2 X2 Y2 Z2) (ha1 : Apart b o b1 o1 12) (ha2 : Apart b o b2 o2 12) :
    Calls Try.prog 33 #[.pointer (some ⟨b, o, none⟩), .pointer (some ⟨b1, o1, none⟩), .pointer (some ⟨b2, o2, none⟩)] w fun e w' => e = .returned (.pointer (some ⟨b, o, none⟩)) ∧ Turned b o 12 w w' ∧ Pnt w' b o (addX X1 Y1 Z1 X2 Y2 Z2) (addY X1 Y1 Z1 X2 Y2 Z2) (addZ X1 Y1 Z1 X2 Y2 Z2) := by
  refine (engF_pts (β := (fun p => if p = 0 then b else if p = 1 then b1 else b2)) (γ := (fun p => if p = 0 then o else if p = 1 then o1 else o2)) (ins := fun i => [X1, Y1, Z1, X2, Y2, Z2].getD i 0) SF Try.func33 rfl runF_add (by decide) (FR.start rfl (by simp <;> decide) ?_ (by decide) ?_ ?_ ?_ hf (by decide))).mono ?_
  · intro t v h
    simp only [List.mem_cons, List.not_mem_nil, or_false, Prod.mk.injEq] at h
    rcases h with ⟨rfl, rfl⟩ | ⟨rfl, rfl⟩ | ⟨rfl, rfl⟩
    all_goals exact ⟨by simp, rfl, by simp [FV.lt]⟩
  · intro p q i h
    simp only [List.mem_cons, List.not_mem_nil, or_false, Prod.mk.injEq] at h
    rcases h with ⟨⟨rfl, rfl⟩, rfl⟩ | ⟨⟨rfl, rfl⟩, rfl⟩ | ⟨⟨rfl, rfl⟩, rfl⟩ | ⟨⟨rfl, rfl⟩, rfl⟩ | ⟨⟨rfl, rfl⟩, rfl⟩ | ⟨⟨rfl, rfl⟩, rfl⟩
    · exact ⟨by decide, by decide, by decide, by decide, h1.1⟩
    · exact ⟨by decide, by decide, by decide, by decide, h1.2.1⟩
    · exact ⟨by decide, by decide, by decide, by decide, h1.2.2⟩
    · exact ⟨by decide, by decide, by decide, by decide, h2.1⟩
    · exact ⟨by decide, by decide, by decide, by decide, h2.2.1⟩
    · exact ⟨by decide, by decide, by decide, by decide, h2.2.2⟩
  · intro p hp
    rcases (show p = 0 ∨ p = 1 ∨ p = 2 by omega) with rfl | rfl | rfl
    · exact hb
    · exact hb1
    · exact hb2
  · intro p hp0 hp
    rcases (show p = 1 ∨ p = 2 by omega) with rfl | rfl
    · exact ha1
    · exact ha2
  · rintro e w' ⟨he, hT, hX, hY, hZ⟩
    rw [add_X] at hX
    rw [add_Y] at hY
    rw [add_Z] at hZ
    exact ⟨he, hT, hX, hY, hZ⟩

noncomputable def defsF_neg0 : List FEx := [.sub 3 1, .zero]
set_option maxRecDepth 1000000 in
theorem runF_neg0 : ((Try.f32.body).bind fun c => (runCF DF 3 1 12 c { sz := Try.f32.ntmps, np := 1, env := [(0, .ptr 0 0), (1, .int .i64 0)], defs := [], mem := [((0, 0), 0), ((0, 4), 1), ((0, 8), 2)], lens := [], al := true }).map fun p => (p.1.defs, lookP p.1.mem 0 0, lookP p.1.mem 0 4, lookP p.1.mem 0 8, lookL p.1.env 4)) =
    some (defsF_neg0, some 0, some 1, some 2, some (.ptr 0 0)) := by kernel_rfl

theorem Negate0_any (b o : Nat) (X Y Z : Fp) (w : World) (hb : b < w.heap.size) (hf : Free w b o 12) (h1 : Pnt w b o X Y Z) :
    Calls Try.prog 32 #[.pointer (some ⟨b, o, none⟩), .int .i64 0] w fun e w' => e = .returned (.pointer (some ⟨b, o, none⟩)) ∧ Turned b o 12 w w' ∧ Pnt w' b o X Y Z := by
  refine (engF_pts (β := (fun p => b)) (γ := (fun p => o)) (ins := fun i => [X, Y, Z].getD i 0) SF Try.func32 rfl runF_neg0 (by decide) (FR.start rfl (by simp <;> decide) ?_ (by decide) ?_ ?_ ?_ hf (by decide))).mono ?_
  · intro t v h
    simp only [List.mem_cons, List.not_mem_nil, or_false, Prod.mk.injEq] at h
    rcases h with ⟨rfl, rfl⟩ | ⟨rfl, rfl⟩
    all_goals exact ⟨by simp, rfl, by simp [FV.lt]⟩
  · intro p q i h
    simp only [List.mem_cons, List.not_mem_nil, or_false, Prod.mk.injEq] at h
    rcases h with ⟨⟨rfl, rfl⟩, rfl⟩ | ⟨⟨rfl, rfl⟩, rfl⟩ | ⟨⟨rfl, rfl⟩, rfl⟩
    · exact ⟨by decide, by decide, by decide, by decide, h1.1⟩
    · exact ⟨by decide, by decide, by decide, by decide, h1.2.1⟩
    · exact ⟨by decide, by decide, by decide, by decide, h1.2.2⟩
  · intro p hp
    rcases (show p = 0 by omega) with rfl
    · exact hb
  · intro p hp0 hp
    omega
  · rintro e w' ⟨he, hT, hX, hY, hZ⟩
    exact ⟨he, hT, hX, hY, hZ⟩

noncomputable def defsF_neg1 : List FEx := [.sub 3 1, .zero]
set_option maxRecDepth 1000000 in
theorem runF_neg1 : ((Try.f32.body).bind fun c => (runCF DF 3 1 12 c { sz := Try.f32.ntmps, np := 1, env := [(0, .ptr 0 0), (1, .int .i64 1)], defs := [], mem := [((0, 0), 0), ((0, 4), 1), ((0, 8), 2)], lens := [], al := true }).map fun p => (p.1.defs, lookP p.1.mem 0 0, lookP p.1.mem 0 4, lookP p.1.mem 0 8, lookL p.1.env 4)) =
    some (defsF_neg1, some 0, some 4, some 2, some (.ptr 0 0)) := by kernel_rfl

theorem Negate1_any (b o : Nat) (X Y Z : Fp) (w : World) (hb : b < w.heap.size) (hf : Free w b o 12) (h1 : Pnt w b o X Y Z) :
    Calls Try.prog 32 #[.pointer (some ⟨b, o, none⟩), .int .i64 1] w fun e w' => e = .returned (.pointer (some ⟨b, o, none⟩)) ∧ Turned b o 12 w w' ∧ Pnt w' b o X (0 - Y) Z := by
  refine (engF_pts (β := (fun p => b)) (γ := (fun p => o)) (ins := fun i => [X, Y, Z].getD i 0) SF Try.func32 rfl runF_neg1 (by decide) (FR.start rfl (by simp <;> decide) ?_ (by decide) ?_ ?_ ?_ hf (by decide))).mono ?_
  · intro t v h
    simp only [List.mem_cons, List.not_mem_nil, or_false, Prod.mk.injEq] at h
    rcases h with ⟨rfl, rfl⟩ | ⟨rfl, rfl⟩
    all_goals exact ⟨by simp, rfl, by simp [FV.lt]⟩
  · intro p q i h
    simp only [List.mem_cons, List.not_mem_nil, or_false, Prod.mk.injEq] at h
    rcases h with ⟨⟨rfl, rfl⟩, rfl⟩ | ⟨⟨rfl, rfl⟩, rfl⟩ | ⟨⟨rfl, rfl⟩, rfl⟩
    · exact ⟨by decide, by decide, by decide, by decide, h1.1⟩
    · exact ⟨by decide, by decide, by decide, by decide, h1.2.1⟩
    · exact ⟨by decide, by decide, by decide, by decide, h1.2.2⟩
  · intro p hp
    rcases (show p = 0 by omega) with rfl
    · exact hb
  · intro p hp0 hp
    omega
  · rintro e w' ⟨he, hT, hX, hY, hZ⟩
    exact ⟨he, hT, hX, hY, hZ⟩

noncomputable def defsF_psel0 : List FEx := []
set_option maxRecDepth 1000000 in
theorem runF_psel0 : ((Try.f47.body).bind fun c => (runCF DF 6 3 12 c { sz := Try.f47.ntmps, np := 3, env := [(0, .ptr 0 0), (1, .ptr 1 0), (2, .ptr 2 0), (3, .int .i64 0)], defs := [], mem := [((1, 0), 0), ((1, 4), 1), ((1, 8), 2), ((2, 0), 3), ((2, 4), 4), ((2, 8), 5)], lens := [], al := true }).map fun p => (p.1.defs, lookP p.1.mem 0 0, lookP p.1.mem 0 4, lookP p.1.mem 0 8, lookL p.1.env 8)) =
    some (defsF_psel0, some 3, some 4, some 5, some (.ptr 0 0)) := by kernel_rfl

theorem PSelect0_any (b o b1 o1 b2 o2 : Nat) (X1 Y1 Z1 X2 Y2 Z2 : Fp) (w : World) (hb : b < w.heap.size) (hb1 : b1 < w.heap.size) (hb2 : b2 < w.heap.size) (hf : Free w b o 12) (h1 : Pnt w b1 o1 X1 Y1 Z1) (h2 : Pnt w b2 o2 X2 Y2 Z2) (ha1 : Apart b o b1 o1 12) (ha2 : Apart b o b2 o2 12) :
    Calls Try.prog 47 #[.pointer (some ⟨b, o, none⟩), .pointer (some ⟨b1, o1, none⟩), .pointer (some ⟨b2, o2, none⟩), .int .i64 0] w fun e w' => e = .returned (.pointer (some ⟨b, o, none⟩)) ∧ Turned b o 12 w w' ∧ Pnt w' b o X2 Y2 Z2 := by
  refine (engF_pts (β := (fun p => if p = 0 then b else if p = 1 then b1 else b2)) (γ := (fun p => if p = 0 then o else if p = 1 then o1 else o2)) (ins := fun i => [X1, Y1, Z1, X2, Y2, Z2].getD i 0) SF Try.func47 rfl runF_psel0 (by decide) (FR.start rfl (by simp <;> decide) ?_ (by decide) ?_ ?_ ?_ hf (by decide))).mono ?_
  · intro t v h
    simp only [List.mem_cons, List.not_mem_nil, or_false, Prod.mk.injEq] at h
    rcases h with ⟨rfl, rfl⟩ | ⟨rfl, rfl⟩ | ⟨rfl, rfl⟩ | ⟨rfl, rfl⟩
    all_goals exact ⟨by simp, rfl, by simp [FV.lt]⟩
  · intro p q i h
    simp only [List.mem_cons, List.not_mem_nil, or_false, Prod.mk.injEq] at h
    rcases h with ⟨⟨rfl, rfl⟩, rfl⟩ | ⟨⟨rfl, rfl⟩, rfl⟩ | ⟨⟨rfl, rfl⟩, rfl⟩ | ⟨⟨rfl, rfl⟩, rfl⟩ | ⟨⟨rfl, rfl⟩, rfl⟩ | ⟨⟨rfl, rfl⟩, rfl⟩
    · exact ⟨by decide, by decide, by decide, by decide, h1.1⟩
    · exact ⟨by decide, by decide, by decide, by decide, h1.2.1⟩
    · exact ⟨by decide, by decide, by decide, by decide, h1.2.2⟩
    · exact ⟨by decide, by decide, by decide, by decide, h2.1⟩
    · exact ⟨by decide, by decide, by decide, by decide, h2.2.1⟩
    · exact ⟨by decide, by decide, by decide, by decide, h2.2.2⟩
  · intro p hp
    rcases (show p = 0 ∨ p = 1 ∨ p = 2 by omega) with rfl | rfl | rfl
    · exact hb
    · exact hb1
    · exact hb2
  · intro p hp0 hp
    rcases (show p = 1 ∨ p = 2 by omega) with rfl | rfl
    · exact ha1
    · exact ha2
  · rintro e w' ⟨he, hT, hX, hY, hZ⟩
    exact ⟨he, hT, hX, hY, hZ⟩

noncomputable def defsF_psel1 : List FEx := []
set_option maxRecDepth 1000000 in
theorem runF_psel1 : ((Try.f47.body).bind fun c => (runCF DF 6 3 12 c { sz := Try.f47.ntmps, np := 3, env := [(0, .ptr 0 0), (1, .ptr 1 0), (2, .ptr 2 0), (3, .int .i64 1)], defs := [], mem := [((1, 0), 0), ((1, 4), 1), ((1, 8), 2), ((2, 0), 3), ((2, 4), 4), ((2, 8), 5)], lens := [], al := true }).map fun p => (p.1.defs, lookP p.1.mem 0 0, lookP p.1.mem 0 4, lookP p.1.mem 0 8, lookL p.1.env 8)) =
    some (defsF_psel1, some 0, some 1, some 2, some (.ptr 0 0)) := by kernel_rfl

theorem PSelect1_any (b o b1 o1 b2 o2 : Nat) (X1 Y1 Z1 X2 Y2 Z2 : Fp) (w : World) (hb : b < w.heap.size) (hb1 : b1 < w.heap.size) (hb2 : b2 < w.heap.size) (hf : Free w b o 12) (h1 : Pnt w b1 o1 X1 Y1 Z1) (h2 : Pnt w b2 o2 X2 Y2 Z2) (ha1 : Apart b o b1 o1 12) (ha2 : Apart b o b2 o2 12) :
    Calls Try.prog 47 #[.pointer (some ⟨b, o, none⟩), .pointer (some ⟨b1, o1, none⟩), .pointer (some ⟨b2, o2, none⟩), .int .i64 1] w fun e w' => e = .returned (.pointer (some ⟨b, o, none⟩)) ∧ Turned b o 12 w w' ∧ Pnt w' b o X1 Y1 Z1 := by
  refine (engF_pts (β := (fun p => if p = 0 then b else if p = 1 then b1 else b2)) (γ := (fun p => if p = 0 then o else if p = 1 then o1 else o2)) (ins := fun i => [X1, Y1, Z1, X2, Y2, Z2].getD i 0) SF Try.func47 rfl runF_psel1 (by decide) (FR.start rfl (by simp <;> decide) ?_ (by decide) ?_ ?_ ?_ hf (by decide))).mono ?_
  · intro t v h
    simp only [List.mem_cons, List.not_mem_nil, or_false, Prod.mk.injEq] at h
    rcases h with ⟨rfl, rfl⟩ | ⟨rfl, rfl⟩ | ⟨rfl, rfl⟩ | ⟨rfl, rfl⟩
    all_goals exact ⟨by simp, rfl, by simp [FV.lt]⟩
  · intro p q i h
    simp only [List.mem_cons, List.not_mem_nil, or_false, Prod.mk.injEq] at h
    rcases h with ⟨⟨rfl, rfl⟩, rfl⟩ | ⟨⟨rfl, rfl⟩, rfl⟩ | ⟨⟨rfl, rfl⟩, rfl⟩ | ⟨⟨rfl, rfl⟩, rfl⟩ | ⟨⟨rfl, rfl⟩, rfl⟩ | ⟨⟨rfl, rfl⟩, rfl⟩
    · exact ⟨by decide, by decide, by decide, by decide, h1.1⟩
    · exact ⟨by decide, by decide, by decide, by decide, h1.2.1⟩
    · exact ⟨by decide, by decide, by decide, by decide, h1.2.2⟩
    · exact ⟨by decide, by decide, by decide, by decide, h2.1⟩
    · exact ⟨by decide, by decide, by decide, by decide, h2.2.1⟩
    · exact ⟨by decide, by decide, by decide, by decide, h2.2.2⟩
  · intro p hp
    rcases (show p = 0 ∨ p = 1 ∨ p = 2 by omega) with rfl | rfl | rfl
    · exact hb
    · exact hb1
    · exact hb2
  · intro p hp0 hp
    rcases (show p = 1 ∨ p = 2 by omega) with rfl | rfl
    · exact ha1
    · exact ha2
  · rintro e w' ⟨he, hT, hX, hY, hZ⟩
    exact ⟨he, hT, hX, hY, hZ⟩




end Go.Proofs.Ytgdjmgcolipcnaa
