/-
  What is proved here: what the point's Double returns, by the engine on elements.
  Conditions: those of each theorem.
-/
import Derived.Test.YtgdjmgcolipcnaaProg
import Derived.Test.YtgdjmgcolipcnaaPts
import Derived.Test.YtgdjmgcolipcnaaFldAlgAlgB
import Derived.WalkKit
import Derived.WalkSpells
import Derived.Outline
import Derived.Handy
import Derived.ProofKit
import Derived.Deep.QuietTactic
import Derived.BigQuiet
import Derived.Lib.Hide
import Derived.OpenShut
namespace Go.Proofs.Ytgdjmgcolipcnaa
open Go Go.RowKit Ecp
set_option linter.unusedSimpArgs false
set_option linter.unusedVariables false

section
variable {n : Nat} [NeZero n]
theorem g_dblX (b X Y Z v4 v6 v8 v10 v11 v13 v14 v16 v17 v18 v20 v21 v22 v25 v26 v27 v28 v29 v30 v31 v32 v33 v39 v40 v41 v42 : Fin n) (h4 : v4 = X * X) (h6 : v6 = Y * Y) (h8 : v8 = Z * Z) (h10 : v10 = X * Y) (h11 : v11 = v10 + v10) (h13 : v13 = X * Z) (h14 : v14 = v13 + v13) (h16 : v16 = b) (h17 : v17 = v16 * v8) (h18 : v18 = v17 - v14) (h20 : v20 = v18 + v18) (h21 : v21 = v20 + v18) (h22 : v22 = v6 - v21) (h25 : v25 = v22 * v11) (h26 : v26 = v8 + v8) (h27 : v27 = v8 + v26) (h28 : v28 = b) (h29 : v29 = v28 * v14) (h30 : v30 = v29 - v27) (h31 : v31 = v30 - v4) (h32 : v32 = v31 + v31) (h33 : v33 = v31 + v32) (h39 : v39 = Y * Z) (h40 : v40 = v39 + v39) (h41 : v41 = v40 * v33) (h42 : v42 = v25 - v41) : v42 = (X * Y + X * Y) * (Y * Y + 3 * (X * Z + X * Z - b * (Z * Z))) - (Y * Z + Y * Z) * (3 * (b * (X * Z + X * Z) - 3 * (Z * Z) - X * X)) := by
  subst h4; subst h6; subst h8; subst h10; subst h11; subst h13; subst h14; subst h16; subst h17; subst h18; subst h20; subst h21; subst h22; subst h25; subst h26; subst h27; subst h28; subst h29; subst h30; subst h31; subst h32; subst h33; subst h39; subst h40; subst h41; subst h42
  grind -lia
theorem g_dblY (b X Y Z v4 v6 v8 v13 v14 v16 v17 v18 v20 v21 v22 v23 v24 v26 v27 v28 v29 v30 v31 v32 v33 v34 v35 v36 v37 v38 : Fin n) (h4 : v4 = X * X) (h6 : v6 = Y * Y) (h8 : v8 = Z * Z) (h13 : v13 = X * Z) (h14 : v14 = v13 + v13) (h16 : v16 = b) (h17 : v17 = v16 * v8) (h18 : v18 = v17 - v14) (h20 : v20 = v18 + v18) (h21 : v21 = v20 + v18) (h22 : v22 = v6 - v21) (h23 : v23 = v6 + v21) (h24 : v24 = v22 * v23) (h26 : v26 = v8 + v8) (h27 : v27 = v8 + v26) (h28 : v28 = b) (h29 : v29 = v28 * v14) (h30 : v30 = v29 - v27) (h31 : v31 = v30 - v4) (h32 : v32 = v31 + v31) (h33 : v33 = v31 + v32) (h34 : v34 = v4 + v4) (h35 : v35 = v34 + v4) (h36 : v36 = v35 - v27) (h37 : v37 = v36 * v33) (h38 : v38 = v24 + v37) : v38 = (Y * Y + 3 * (X * Z + X * Z - b * (Z * Z))) * (Y * Y - 3 * (X * Z + X * Z - b * (Z * Z))) + (3 * (X * X) - 3 * (Z * Z)) * (3 * (b * (X * Z + X * Z) - 3 * (Z * Z) - X * X)) := by
  subst h4; subst h6; subst h8; subst h13; subst h14; subst h16; subst h17; subst h18; subst h20; subst h21; subst h22; subst h23; subst h24; subst h26; subst h27; subst h28; subst h29; subst h30; subst h31; subst h32; subst h33; subst h34; subst h35; subst h36; subst h37; subst h38
  grind -lia
theorem g_dblZ (b X Y Z v6 v39 v40 v43 v44 v45 : Fin n) (h6 : v6 = Y * Y) (h39 : v39 = Y * Z) (h40 : v40 = v39 + v39) (h43 : v43 = v40 * v6) (h44 : v44 = v43 + v43) (h45 : v45 = v44 + v44) : v45 = 8 * (Y * Y * Y * Z) := by
  subst h6; subst h39; subst h40; subst h43; subst h44; subst h45
  grind -lia
theorem g_dblZ' (b X Y Z : Fin n) (h : Y * Y * Z = X * X * X - 3 * X * (Z * Z) + b * (Z * Z * Z)) : 8 * (Y * Y * Y * Z) = (Y * Z + Y * Z) * (Y * Y - 3 * (X * Z + X * Z - b * (Z * Z))) + (X * Y + X * Y) * (3 * (X * X) - 3 * (Z * Z)) := by grind -lia
theorem g_hom (b z f X Y : Fin n) (hf : z * f = 1) (h : Y * f * (Y * f) = X * f * (X * f) * (X * f) - 3 * (X * f) + b) : Y * Y * z = X * X * X - 3 * X * (z * z) + b * (z * z * z) := by grind -lia
end

noncomputable def defsF_dbl : List FEx := [.add 44 44, .add 43 43, .mul 40 6, .sub 25 41, .mul 40 33, .add 39 39, .mul 1 2, .add 24 37, .mul 36 33, .sub 35 27, .add 34 4, .add 4 4, .add 31 32, .add 31 31, .sub 30 4, .sub 29 27, .mul 28 14, .cb, .add 8 26, .add 8 8, .mul 22 11, .mul 22 23, .add 6 21, .sub 6 21, .add 20 18, .add 18 18, .zero, .sub 17 14, .mul 16 8, .cb, .zero, .add 13 13, .mul 0 2, .zero, .add 10 10, .mul 0 1, .zero, .mul 2 2, .zero, .mul 1 1, .zero, .mul 0 0, .zero]
theorem inScope_dbl : inScope 3 defsF_dbl = true := by decide +kernel
set_option maxRecDepth 10000 in
theorem dbl_X (ins : Nat → Fp) : denF ins 3 defsF_dbl 42 = addX (ins 0) (ins 1) (ins 2) (ins 0) (ins 1) (ins 2) := by
  have h4 := denF_at (ins := ins) inScope_dbl (i := 1) (by decide) (e := .mul 0 0) rfl
  have h6 := denF_at (ins := ins) inScope_dbl (i := 3) (by decide) (e := .mul 1 1) rfl
  have h8 := denF_at (ins := ins) inScope_dbl (i := 5) (by decide) (e := .mul 2 2) rfl
  have h10 := denF_at (ins := ins) inScope_dbl (i := 7) (by decide) (e := .mul 0 1) rfl
  have h11 := denF_at (ins := ins) inScope_dbl (i := 8) (by decide) (e := .add 10 10) rfl
  have h13 := denF_at (ins := ins) inScope_dbl (i := 10) (by decide) (e := .mul 0 2) rfl
  have h14 := denF_at (ins := ins) inScope_dbl (i := 11) (by decide) (e := .add 13 13) rfl
  have h16 := denF_at (ins := ins) inScope_dbl (i := 13) (by decide) (e := .cb) rfl
  have h17 := denF_at (ins := ins) inScope_dbl (i := 14) (by decide) (e := .mul 16 8) rfl
  have h18 := denF_at (ins := ins) inScope_dbl (i := 15) (by decide) (e := .sub 17 14) rfl
  have h20 := denF_at (ins := ins) inScope_dbl (i := 17) (by decide) (e := .add 18 18) rfl
  have h21 := denF_at (ins := ins) inScope_dbl (i := 18) (by decide) (e := .add 20 18) rfl
  have h22 := denF_at (ins := ins) inScope_dbl (i := 19) (by decide) (e := .sub 6 21) rfl
  have h25 := denF_at (ins := ins) inScope_dbl (i := 22) (by decide) (e := .mul 22 11) rfl
  have h26 := denF_at (ins := ins) inScope_dbl (i := 23) (by decide) (e := .add 8 8) rfl
  have h27 := denF_at (ins := ins) inScope_dbl (i := 24) (by decide) (e := .add 8 26) rfl
  have h28 := denF_at (ins := ins) inScope_dbl (i := 25) (by decide) (e := .cb) rfl
  have h29 := denF_at (ins := ins) inScope_dbl (i := 26) (by decide) (e := .mul 28 14) rfl
  have h30 := denF_at (ins := ins) inScope_dbl (i := 27) (by decide) (e := .sub 29 27) rfl
  have h31 := denF_at (ins := ins) inScope_dbl (i := 28) (by decide) (e := .sub 30 4) rfl
  have h32 := denF_at (ins := ins) inScope_dbl (i := 29) (by decide) (e := .add 31 31) rfl
  have h33 := denF_at (ins := ins) inScope_dbl (i := 30) (by decide) (e := .add 31 32) rfl
  have h39 := denF_at (ins := ins) inScope_dbl (i := 36) (by decide) (e := .mul 1 2) rfl
  have h40 := denF_at (ins := ins) inScope_dbl (i := 37) (by decide) (e := .add 39 39) rfl
  have h41 := denF_at (ins := ins) inScope_dbl (i := 38) (by decide) (e := .mul 40 33) rfl
  have h42 := denF_at (ins := ins) inScope_dbl (i := 39) (by decide) (e := .sub 25 41) rfl
  have i0 : denF ins 3 defsF_dbl 0 = ins 0 := denF_in (by decide)
  have i1 : denF ins 3 defsF_dbl 1 = ins 1 := denF_in (by decide)
  have i2 : denF ins 3 defsF_dbl 2 = ins 2 := denF_in (by decide)
  simp only [Nat.reduceAdd, evF] at h4 h6 h8 h10 h11 h13 h14 h16 h17 h18 h20 h21 h22 h25 h26 h27 h28 h29 h30 h31 h32 h33 h39 h40 h41 h42
  simp only [i0, i1, i2] at h4 h6 h8 h10 h13 h39
  generalize denF ins 3 defsF_dbl = ρ at *
  exact g_dblX cB (ins 0) (ins 1) (ins 2) _ _ _ _ _ _ _ _ _ _ _ _ _ _ _ _ _ _ _ _ _ _ _ _ _ _ h4 h6 h8 h10 h11 h13 h14 h16 h17 h18 h20 h21 h22 h25 h26 h27 h28 h29 h30 h31 h32 h33 h39 h40 h41 h42
set_option maxRecDepth 10000 in
theorem dbl_Y (ins : Nat → Fp) : denF ins 3 defsF_dbl 38 = addY (ins 0) (ins 1) (ins 2) (ins 0) (ins 1) (ins 2) := by
  have h4 := denF_at (ins := ins) inScope_dbl (i := 1) (by decide) (e := .mul 0 0) rfl
  have h6 := denF_at (ins := ins) inScope_dbl (i := 3) (by decide) (e := .mul 1 1) rfl
  have h8 := denF_at (ins := ins) inScope_dbl (i := 5) (by decide) (e := .mul 2 2) rfl
  have h13 := denF_at (ins := ins) inScope_dbl (i := 10) (by decide) (e := .mul 0 2) rfl
  have h14 := denF_at (ins := ins) inScope_dbl (i := 11) (by decide) (e := .add 13 13) rfl
  have h16 := denF_at (ins := ins) inScope_dbl (i := 13) (by decide) (e := .cb) rfl
  have h17 := denF_at (ins := ins) inScope_dbl (i := 14) (by decide) (e := .mul 16 8) rfl
  have h18 := denF_at (ins := ins) inScope_dbl (i := 15) (by decide) (e := .sub 17 14) rfl
  have h20 := denF_at (ins := ins) inScope_dbl (i := 17) (by decide) (e := .add 18 18) rfl
  have h21 := denF_at (ins := ins) inScope_dbl (i := 18) (by decide) (e := .add 20 18) rfl
  have h22 := denF_at (ins := ins) inScope_dbl (i := 19) (by decide) (e := .sub 6 21) rfl
  have h23 := denF_at (ins := ins) inScope_dbl (i := 20) (by decide) (e := .add 6 21) rfl
  have h24 := denF_at (ins := ins) inScope_dbl (i := 21) (by decide) (e := .mul 22 23) rfl
  have h26 := denF_at (ins := ins) inScope_dbl (i := 23) (by decide) (e := .add 8 8) rfl
  have h27 := denF_at (ins := ins) inScope_dbl (i := 24) (by decide) (e := .add 8 26) rfl
  have h28 := denF_at (ins := ins) inScope_dbl (i := 25) (by decide) (e := .cb) rfl
  have h29 := denF_at (ins := ins) inScope_dbl (i := 26) (by decide) (e := .mul 28 14) rfl
  have h30 := denF_at (ins := ins) inScope_dbl (i := 27) (by decide) (e := .sub 29 27) rfl
  have h31 := denF_at (ins := ins) inScope_dbl (i := 28) (by decide) (e := .sub 30 4) rfl
  have h32 := denF_at (ins := ins) inScope_dbl (i := 29) (by decide) (e := .add 31 31) rfl
  have h33 := denF_at (ins := ins) inScope_dbl (i := 30) (by decide) (e := .add 31 32) rfl
  have h34 := denF_at (ins := ins) inScope_dbl (i := 31) (by decide) (e := .add 4 4) rfl
  have h35 := denF_at (ins := ins) inScope_dbl (i := 32) (by decide) (e := .add 34 4) rfl
  have h36 := denF_at (ins := ins) inScope_dbl (i := 33) (by decide) (e := .sub 35 27) rfl
  have h37 := denF_at (ins := ins) inScope_dbl (i := 34) (by decide) (e := .mul 36 33) rfl
  have h38 := denF_at (ins := ins) inScope_dbl (i := 35) (by decide) (e := .add 24 37) rfl
  have i0 : denF ins 3 defsF_dbl 0 = ins 0 := denF_in (by decide)
  have i1 : denF ins 3 defsF_dbl 1 = ins 1 := denF_in (by decide)
  have i2 : denF ins 3 defsF_dbl 2 = ins 2 := denF_in (by decide)
  simp only [Nat.reduceAdd, evF] at h4 h6 h8 h13 h14 h16 h17 h18 h20 h21 h22 h23 h24 h26 h27 h28 h29 h30 h31 h32 h33 h34 h35 h36 h37 h38
  simp only [i0, i1, i2] at h4 h6 h8 h13
  generalize denF ins 3 defsF_dbl = ρ at *
  exact g_dblY cB (ins 0) (ins 1) (ins 2) _ _ _ _ _ _ _ _ _ _ _ _ _ _ _ _ _ _ _ _ _ _ _ _ _ _ h4 h6 h8 h13 h14 h16 h17 h18 h20 h21 h22 h23 h24 h26 h27 h28 h29 h30 h31 h32 h33 h34 h35 h36 h37 h38
set_option maxRecDepth 10000 in
theorem dbl_Z (ins : Nat → Fp) : denF ins 3 defsF_dbl 45 = 8 * (ins 1 * ins 1 * ins 1 * ins 2) := by
  have h6 := denF_at (ins := ins) inScope_dbl (i := 3) (by decide) (e := .mul 1 1) rfl
  have h39 := denF_at (ins := ins) inScope_dbl (i := 36) (by decide) (e := .mul 1 2) rfl
  have h40 := denF_at (ins := ins) inScope_dbl (i := 37) (by decide) (e := .add 39 39) rfl
  have h43 := denF_at (ins := ins) inScope_dbl (i := 40) (by decide) (e := .mul 40 6) rfl
  have h44 := denF_at (ins := ins) inScope_dbl (i := 41) (by decide) (e := .add 43 43) rfl
  have h45 := denF_at (ins := ins) inScope_dbl (i := 42) (by decide) (e := .add 44 44) rfl
  have i0 : denF ins 3 defsF_dbl 0 = ins 0 := denF_in (by decide)
  have i1 : denF ins 3 defsF_dbl 1 = ins 1 := denF_in (by decide)
  have i2 : denF ins 3 defsF_dbl 2 = ins 2 := denF_in (by decide)
  simp only [Nat.reduceAdd, evF] at h6 h39 h40 h43 h44 h45
  simp only [i0, i1, i2] at h6 h39
  generalize denF ins 3 defsF_dbl = ρ at *
  exact g_dblZ cB (ins 0) (ins 1) (ins 2) _ _ _ _ _ _ h6 h39 h40 h43 h44 h45
/-- The curve's equation, for three coordinates. -/
def Hom (X Y Z : Fp) : Prop := Y * Y * Z = X * X * X - 3 * X * (Z * Z) + cB * (Z * Z * Z)
theorem hom_of_ok {X Y Z : Fp} (h : affOk X Y Z) : Hom X Y Z := by
  unfold affOk at h
  unfold Hom
  by_cases hz : Z = 0
  · rw [if_pos hz] at h
    obtain ⟨rfl, _⟩ := h
    subst hz
    simp only [g_mul_zero, g_zero_mul, g_self]
    exact (g_add_z (0 : Fp) 0).symm
  · rw [if_neg hz] at h
    exact g_hom cB Z (finv Z) X Y (mul_finv hz) h
theorem dbl_hom {X Y Z : Fp} (h : Hom X Y Z) : 8 * (Y * Y * Y * Z) = addZ X Y Z X Y Z := g_dblZ' cB X Y Z h
set_option maxRecDepth 1000000 in
theorem runF_dbl : ((Try.f31.body).bind fun c => (runCF DF 3 2 12 c { sz := Try.f31.ntmps, np := 2, env := [(0, .ptr 0 0), (1, .ptr 1 0)], defs := [], mem := [((1, 0), 0), ((1, 4), 1), ((1, 8), 2)], lens := [], al := true }).map fun p => (p.1.defs, lookP p.1.mem 0 0, lookP p.1.mem 0 4, lookP p.1.mem 0 8, lookL p.1.env 4)) =
    some (defsF_dbl, some 42, some 38, some 45, some (.ptr 0 0)) := by kernel_rfl

theorem Double_any (b o b1 o1 : Nat) (X Y Z : Fp) (w : World) (hb : b < w.heap.size) (hb1 : b1 < w.heap.size) (hf : Free w b o 12) (h1 : Pnt w b1 o1 X Y Z) (ha1 : Apart b o b1 o1 12) (hh : Hom X Y Z) :
    Calls Try.prog 31 #[.pointer (some ⟨b, o, none⟩), .pointer (some ⟨b1, o1, none⟩)] w fun e w' => e = .returned (.pointer (some ⟨b, o, none⟩)) ∧ Turned b o 12 w w' ∧ Pnt w' b o (addX X Y Z X Y Z) (addY X Y Z X Y Z) (addZ X Y Z X Y Z) := by
  rw [← dbl_hom hh]
  refine (engF_pts (β := (fun p => if p = 0 then b else b1)) (γ := (fun p => if p = 0 then o else o1)) (ins := fun i => [X, Y, Z].getD i 0) SF Try.func31 rfl runF_dbl (by decide) (FR.start rfl (by simp <;> decide) ?_ (by decide) ?_ ?_ ?_ hf (by decide))).mono ?_
  · intro t v h
    simp only [List.mem_cons, List.not_mem_nil, or_false, Prod.mk.injEq] at h
    rcases h with ⟨rfl, rfl⟩ | ⟨rfl, rfl⟩
    all_goals exact ⟨by simp, rfl, by simp [FV.lt]⟩
  · intro p q i h
    simp only [List.mem_cons, List.not_mem_nil, or_false, Prod.mk.injEq] at h
    rcases h with ⟨⟨rfl, rfl⟩, rfl⟩ | ⟨⟨rfl, rfl⟩, rfl⟩ | ⟨⟨rfl, rfl⟩, rfl⟩
    · exact ⟨by decide, by decide, by decide, by decide, h1.1⟩
    · exact ⟨by decide, by decide, by decide, by decide, h1.2.1⟩
    · exact ⟨by decide, by decide, by decide, by decide, h1.2.2⟩
  · intro p hp
    rcases (show p = 0 ∨ p = 1 by omega) with rfl | rfl
    · exact hb
    · exact hb1
  · intro p hp0 hp
    rcases (show p = 1 by omega) with rfl
    · exact ha1
  · rintro e w' ⟨he, hT, hX, hY, hZ⟩
    rw [dbl_X] at hX
    rw [dbl_Y] at hY
    rw [dbl_Z] at hZ
    exact ⟨he, hT, hX, hY, hZ⟩
end Go.Proofs.Ytgdjmgcolipcnaa
