/-
  What is proved here: that the package's sequences of operations compute the complete formulas. No program in sight.
  Conditions: those of each theorem.
-/
import Derived.Test.YtgdjmgcolipcnaaFldAlgAlgB
import Derived.Test.YtgdjmgcolipcnaaEngFEngGEngHEngI
namespace Go.Proofs.Ytgdjmgcolipcnaa
open Ecp
set_option linter.unusedVariables false
section
variable {n : Nat} [NeZero n]
theorem g_addX (b X1 Y1 Z1 X2 Y2 Z2 v7 v9 v11 v13 v15 v16 v17 v18 v19 v21 v22 v23 v24 v25 v27 v28 v29 v30 v32 v33 v34 v35 v36 v38 v39 v40 v41 v42 v43 v44 v45 v46 v50 v54 v55 : Fin n) (h7 : v7 = X1 * X2) (h9 : v9 = Y1 * Y2) (h11 : v11 = Z1 * Z2) (h13 : v13 = X1 + Y1) (h15 : v15 = X2 + Y2) (h16 : v16 = v13 * v15) (h17 : v17 = v7 + v9) (h18 : v18 = v16 - v17) (h19 : v19 = Y1 + Z1) (h21 : v21 = Y2 + Z2) (h22 : v22 = v19 * v21) (h23 : v23 = v9 + v11) (h24 : v24 = v22 - v23) (h25 : v25 = X1 + Z1) (h27 : v27 = X2 + Z2) (h28 : v28 = v25 * v27) (h29 : v29 = v7 + v11) (h30 : v30 = v28 - v29) (h32 : v32 = b) (h33 : v33 = v32 * v11) (h34 : v34 = v30 - v33) (h35 : v35 = v34 + v34) (h36 : v36 = v34 + v35) (h38 : v38 = v9 + v36) (h39 : v39 = b) (h40 : v40 = v39 * v30) (h41 : v41 = v11 + v11) (h42 : v42 = v41 + v11) (h43 : v43 = v40 - v42) (h44 : v44 = v43 - v7) (h45 : v45 = v44 + v44) (h46 : v46 = v45 + v44) (h50 : v50 = v24 * v46) (h54 : v54 = v18 * v38) (h55 : v55 = v54 - v50) : v55 = (X1 * Y2 + X2 * Y1) * (Y1 * Y2 + 3 * (X1 * Z2 + X2 * Z1 - b * (Z1 * Z2))) - (Y1 * Z2 + Y2 * Z1) * (3 * (b * (X1 * Z2 + X2 * Z1) - 3 * (Z1 * Z2) - X1 * X2)) := by
  subst h7; subst h9; subst h11; subst h13; subst h15; subst h16; subst h17; subst h18; subst h19; subst h21; subst h22; subst h23; subst h24; subst h25; subst h27; subst h28; subst h29; subst h30; subst h32; subst h33; subst h34; subst h35; subst h36; subst h38; subst h39; subst h40; subst h41; subst h42; subst h43; subst h44; subst h45; subst h46; subst h50; subst h54; subst h55
  grind -lia
theorem g_addY (b X1 Y1 Z1 X2 Y2 Z2 v7 v9 v11 v25 v27 v28 v29 v30 v32 v33 v34 v35 v36 v37 v38 v39 v40 v41 v42 v43 v44 v45 v46 v47 v48 v49 v51 v52 v53 : Fin n) (h7 : v7 = X1 * X2) (h9 : v9 = Y1 * Y2) (h11 : v11 = Z1 * Z2) (h25 : v25 = X1 + Z1) (h27 : v27 = X2 + Z2) (h28 : v28 = v25 * v27) (h29 : v29 = v7 + v11) (h30 : v30 = v28 - v29) (h32 : v32 = b) (h33 : v33 = v32 * v11) (h34 : v34 = v30 - v33) (h35 : v35 = v34 + v34) (h36 : v36 = v34 + v35) (h37 : v37 = v9 - v36) (h38 : v38 = v9 + v36) (h39 : v39 = b) (h40 : v40 = v39 * v30) (h41 : v41 = v11 + v11) (h42 : v42 = v41 + v11) (h43 : v43 = v40 - v42) (h44 : v44 = v43 - v7) (h45 : v45 = v44 + v44) (h46 : v46 = v45 + v44) (h47 : v47 = v7 + v7) (h48 : v48 = v47 + v7) (h49 : v49 = v48 - v42) (h51 : v51 = v49 * v46) (h52 : v52 = v38 * v37) (h53 : v53 = v52 + v51) : v53 = (Y1 * Y2 + 3 * (X1 * Z2 + X2 * Z1 - b * (Z1 * Z2))) * (Y1 * Y2 - 3 * (X1 * Z2 + X2 * Z1 - b * (Z1 * Z2))) + (3 * (X1 * X2) - 3 * (Z1 * Z2)) * (3 * (b * (X1 * Z2 + X2 * Z1) - 3 * (Z1 * Z2) - X1 * X2)) := by
  subst h7; subst h9; subst h11; subst h25; subst h27; subst h28; subst h29; subst h30; subst h32; subst h33; subst h34; subst h35; subst h36; subst h37; subst h38; subst h39; subst h40; subst h41; subst h42; subst h43; subst h44; subst h45; subst h46; subst h47; subst h48; subst h49; subst h51; subst h52; subst h53
  grind -lia
theorem g_addZ (b X1 Y1 Z1 X2 Y2 Z2 v7 v9 v11 v13 v15 v16 v17 v18 v19 v21 v22 v23 v24 v25 v27 v28 v29 v30 v32 v33 v34 v35 v36 v37 v41 v42 v47 v48 v49 v56 v57 v58 : Fin n) (h7 : v7 = X1 * X2) (h9 : v9 = Y1 * Y2) (h11 : v11 = Z1 * Z2) (h13 : v13 = X1 + Y1) (h15 : v15 = X2 + Y2) (h16 : v16 = v13 * v15) (h17 : v17 = v7 + v9) (h18 : v18 = v16 - v17) (h19 : v19 = Y1 + Z1) (h21 : v21 = Y2 + Z2) (h22 : v22 = v19 * v21) (h23 : v23 = v9 + v11) (h24 : v24 = v22 - v23) (h25 : v25 = X1 + Z1) (h27 : v27 = X2 + Z2) (h28 : v28 = v25 * v27) (h29 : v29 = v7 + v11) (h30 : v30 = v28 - v29) (h32 : v32 = b) (h33 : v33 = v32 * v11) (h34 : v34 = v30 - v33) (h35 : v35 = v34 + v34) (h36 : v36 = v34 + v35) (h37 : v37 = v9 - v36) (h41 : v41 = v11 + v11) (h42 : v42 = v41 + v11) (h47 : v47 = v7 + v7) (h48 : v48 = v47 + v7) (h49 : v49 = v48 - v42) (h56 : v56 = v24 * v37) (h57 : v57 = v18 * v49) (h58 : v58 = v56 + v57) : v58 = (Y1 * Z2 + Y2 * Z1) * (Y1 * Y2 - 3 * (X1 * Z2 + X2 * Z1 - b * (Z1 * Z2))) + (X1 * Y2 + X2 * Y1) * (3 * (X1 * X2) - 3 * (Z1 * Z2)) := by
  subst h7; subst h9; subst h11; subst h13; subst h15; subst h16; subst h17; subst h18; subst h19; subst h21; subst h22; subst h23; subst h24; subst h25; subst h27; subst h28; subst h29; subst h30; subst h32; subst h33; subst h34; subst h35; subst h36; subst h37; subst h41; subst h42; subst h47; subst h48; subst h49; subst h56; subst h57; subst h58
  grind -lia
theorem g_mixX (b X1 Y1 Z1 X2 Y2 v6 v8 v10 v12 v13 v14 v15 v16 v17 v19 v20 v22 v23 v25 v26 v27 v29 v30 v31 v32 v34 v35 v36 v37 v38 v42 v46 v47 : Fin n) (h6 : v6 = X1 * X2) (h8 : v8 = Y1 * Y2) (h10 : v10 = X2 + Y2) (h12 : v12 = X1 + Y1) (h13 : v13 = v10 * v12) (h14 : v14 = v6 + v8) (h15 : v15 = v13 - v14) (h16 : v16 = Y2 * Z1) (h17 : v17 = v16 + Y1) (h19 : v19 = X2 * Z1) (h20 : v20 = v19 + X1) (h22 : v22 = b) (h23 : v23 = v22 * Z1) (h25 : v25 = v20 - v23) (h26 : v26 = v25 + v25) (h27 : v27 = v25 + v26) (h29 : v29 = v8 + v27) (h30 : v30 = b) (h31 : v31 = v30 * v20) (h32 : v32 = Z1 + Z1) (h34 : v34 = v32 + Z1) (h35 : v35 = v31 - v34) (h36 : v36 = v35 - v6) (h37 : v37 = v36 + v36) (h38 : v38 = v37 + v36) (h42 : v42 = v17 * v38) (h46 : v46 = v15 * v29) (h47 : v47 = v46 - v42) : v47 = (X1 * Y2 + X2 * Y1) * (Y1 * Y2 + 3 * (X1 * 1 + X2 * Z1 - b * (Z1 * 1))) - (Y1 * 1 + Y2 * Z1) * (3 * (b * (X1 * 1 + X2 * Z1) - 3 * (Z1 * 1) - X1 * X2)) := by
  subst h6; subst h8; subst h10; subst h12; subst h13; subst h14; subst h15; subst h16; subst h17; subst h19; subst h20; subst h22; subst h23; subst h25; subst h26; subst h27; subst h29; subst h30; subst h31; subst h32; subst h34; subst h35; subst h36; subst h37; subst h38; subst h42; subst h46; subst h47
  grind -lia
theorem g_mixY (b X1 Y1 Z1 X2 Y2 v6 v8 v19 v20 v22 v23 v25 v26 v27 v28 v29 v30 v31 v32 v34 v35 v36 v37 v38 v39 v40 v41 v43 v44 v45 : Fin n) (h6 : v6 = X1 * X2) (h8 : v8 = Y1 * Y2) (h19 : v19 = X2 * Z1) (h20 : v20 = v19 + X1) (h22 : v22 = b) (h23 : v23 = v22 * Z1) (h25 : v25 = v20 - v23) (h26 : v26 = v25 + v25) (h27 : v27 = v25 + v26) (h28 : v28 = v8 - v27) (h29 : v29 = v8 + v27) (h30 : v30 = b) (h31 : v31 = v30 * v20) (h32 : v32 = Z1 + Z1) (h34 : v34 = v32 + Z1) (h35 : v35 = v31 - v34) (h36 : v36 = v35 - v6) (h37 : v37 = v36 + v36) (h38 : v38 = v37 + v36) (h39 : v39 = v6 + v6) (h40 : v40 = v39 + v6) (h41 : v41 = v40 - v34) (h43 : v43 = v41 * v38) (h44 : v44 = v29 * v28) (h45 : v45 = v44 + v43) : v45 = (Y1 * Y2 + 3 * (X1 * 1 + X2 * Z1 - b * (Z1 * 1))) * (Y1 * Y2 - 3 * (X1 * 1 + X2 * Z1 - b * (Z1 * 1))) + (3 * (X1 * X2) - 3 * (Z1 * 1)) * (3 * (b * (X1 * 1 + X2 * Z1) - 3 * (Z1 * 1) - X1 * X2)) := by
  subst h6; subst h8; subst h19; subst h20; subst h22; subst h23; subst h25; subst h26; subst h27; subst h28; subst h29; subst h30; subst h31; subst h32; subst h34; subst h35; subst h36; subst h37; subst h38; subst h39; subst h40; subst h41; subst h43; subst h44; subst h45
  grind -lia
theorem g_mixZ (b X1 Y1 Z1 X2 Y2 v6 v8 v10 v12 v13 v14 v15 v16 v17 v19 v20 v22 v23 v25 v26 v27 v28 v32 v34 v39 v40 v41 v48 v49 v50 : Fin n) (h6 : v6 = X1 * X2) (h8 : v8 = Y1 * Y2) (h10 : v10 = X2 + Y2) (h12 : v12 = X1 + Y1) (h13 : v13 = v10 * v12) (h14 : v14 = v6 + v8) (h15 : v15 = v13 - v14) (h16 : v16 = Y2 * Z1) (h17 : v17 = v16 + Y1) (h19 : v19 = X2 * Z1) (h20 : v20 = v19 + X1) (h22 : v22 = b) (h23 : v23 = v22 * Z1) (h25 : v25 = v20 - v23) (h26 : v26 = v25 + v25) (h27 : v27 = v25 + v26) (h28 : v28 = v8 - v27) (h32 : v32 = Z1 + Z1) (h34 : v34 = v32 + Z1) (h39 : v39 = v6 + v6) (h40 : v40 = v39 + v6) (h41 : v41 = v40 - v34) (h48 : v48 = v17 * v28) (h49 : v49 = v15 * v41) (h50 : v50 = v48 + v49) : v50 = (Y1 * 1 + Y2 * Z1) * (Y1 * Y2 - 3 * (X1 * 1 + X2 * Z1 - b * (Z1 * 1))) + (X1 * Y2 + X2 * Y1) * (3 * (X1 * X2) - 3 * (Z1 * 1)) := by
  subst h6; subst h8; subst h10; subst h12; subst h13; subst h14; subst h15; subst h16; subst h17; subst h19; subst h20; subst h22; subst h23; subst h25; subst h26; subst h27; subst h28; subst h32; subst h34; subst h39; subst h40; subst h41; subst h48; subst h49; subst h50
  grind -lia
end

noncomputable def defsF_add : List FEx := [.add 56 57, .mul 18 49, .mul 24 37, .sub 54 50, .mul 18 38, .add 52 51, .mul 38 37, .mul 49 46, .mul 24 46, .sub 48 42, .add 47 7, .add 7 7, .add 45 44, .add 44 44, .sub 43 7, .sub 40 42, .add 41 11, .add 11 11, .mul 39 30, .cb, .add 9 36, .sub 9 36, .add 34 35, .add 34 34, .sub 30 33, .mul 32 11, .cb, .zero, .sub 28 29, .add 7 11, .mul 25 27, .add 3 5, .zero, .add 0 2, .sub 22 23, .add 9 11, .mul 19 21, .add 4 5, .zero, .add 1 2, .sub 16 17, .add 7 9, .mul 13 15, .add 3 4, .zero, .add 0 1, .zero, .mul 2 5, .zero, .mul 1 4, .zero, .mul 0 3, .zero]
theorem inScope_add : inScope 6 defsF_add = true := by decide +kernel
set_option maxRecDepth 10000 in
theorem add_X (ins : Nat → Fp) : denF ins 6 defsF_add 55 = addX (ins 0) (ins 1) (ins 2) (ins 3) (ins 4) (ins 5) := by
  have h7 := denF_at (ins := ins) inScope_add (i := 1) (by decide) (e := .mul 0 3) rfl
  have h9 := denF_at (ins := ins) inScope_add (i := 3) (by decide) (e := .mul 1 4) rfl
  have h11 := denF_at (ins := ins) inScope_add (i := 5) (by decide) (e := .mul 2 5) rfl
  have h13 := denF_at (ins := ins) inScope_add (i := 7) (by decide) (e := .add 0 1) rfl
  have h15 := denF_at (ins := ins) inScope_add (i := 9) (by decide) (e := .add 3 4) rfl
  have h16 := denF_at (ins := ins) inScope_add (i := 10) (by decide) (e := .mul 13 15) rfl
  have h17 := denF_at (ins := ins) inScope_add (i := 11) (by decide) (e := .add 7 9) rfl
  have h18 := denF_at (ins := ins) inScope_add (i := 12) (by decide) (e := .sub 16 17) rfl
  have h19 := denF_at (ins := ins) inScope_add (i := 13) (by decide) (e := .add 1 2) rfl
  have h21 := denF_at (ins := ins) inScope_add (i := 15) (by decide) (e := .add 4 5) rfl
  have h22 := denF_at (ins := ins) inScope_add (i := 16) (by decide) (e := .mul 19 21) rfl
  have h23 := denF_at (ins := ins) inScope_add (i := 17) (by decide) (e := .add 9 11) rfl
  have h24 := denF_at (ins := ins) inScope_add (i := 18) (by decide) (e := .sub 22 23) rfl
  have h25 := denF_at (ins := ins) inScope_add (i := 19) (by decide) (e := .add 0 2) rfl
  have h27 := denF_at (ins := ins) inScope_add (i := 21) (by decide) (e := .add 3 5) rfl
  have h28 := denF_at (ins := ins) inScope_add (i := 22) (by decide) (e := .mul 25 27) rfl
  have h29 := denF_at (ins := ins) inScope_add (i := 23) (by decide) (e := .add 7 11) rfl
  have h30 := denF_at (ins := ins) inScope_add (i := 24) (by decide) (e := .sub 28 29) rfl
  have h32 := denF_at (ins := ins) inScope_add (i := 26) (by decide) (e := .cb) rfl
  have h33 := denF_at (ins := ins) inScope_add (i := 27) (by decide) (e := .mul 32 11) rfl
  have h34 := denF_at (ins := ins) inScope_add (i := 28) (by decide) (e := .sub 30 33) rfl
  have h35 := denF_at (ins := ins) inScope_add (i := 29) (by decide) (e := .add 34 34) rfl
  have h36 := denF_at (ins := ins) inScope_add (i := 30) (by decide) (e := .add 34 35) rfl
  have h38 := denF_at (ins := ins) inScope_add (i := 32) (by decide) (e := .add 9 36) rfl
  have h39 := denF_at (ins := ins) inScope_add (i := 33) (by decide) (e := .cb) rfl
  have h40 := denF_at (ins := ins) inScope_add (i := 34) (by decide) (e := .mul 39 30) rfl
  have h41 := denF_at (ins := ins) inScope_add (i := 35) (by decide) (e := .add 11 11) rfl
  have h42 := denF_at (ins := ins) inScope_add (i := 36) (by decide) (e := .add 41 11) rfl
  have h43 := denF_at (ins := ins) inScope_add (i := 37) (by decide) (e := .sub 40 42) rfl
  have h44 := denF_at (ins := ins) inScope_add (i := 38) (by decide) (e := .sub 43 7) rfl
  have h45 := denF_at (ins := ins) inScope_add (i := 39) (by decide) (e := .add 44 44) rfl
  have h46 := denF_at (ins := ins) inScope_add (i := 40) (by decide) (e := .add 45 44) rfl
  have h50 := denF_at (ins := ins) inScope_add (i := 44) (by decide) (e := .mul 24 46) rfl
  have h54 := denF_at (ins := ins) inScope_add (i := 48) (by decide) (e := .mul 18 38) rfl
  have h55 := denF_at (ins := ins) inScope_add (i := 49) (by decide) (e := .sub 54 50) rfl
  have i0 : denF ins 6 defsF_add 0 = ins 0 := denF_in (by decide)
  have i1 : denF ins 6 defsF_add 1 = ins 1 := denF_in (by decide)
  have i2 : denF ins 6 defsF_add 2 = ins 2 := denF_in (by decide)
  have i3 : denF ins 6 defsF_add 3 = ins 3 := denF_in (by decide)
  have i4 : denF ins 6 defsF_add 4 = ins 4 := denF_in (by decide)
  have i5 : denF ins 6 defsF_add 5 = ins 5 := denF_in (by decide)
  simp only [Nat.reduceAdd, evF] at h7 h9 h11 h13 h15 h16 h17 h18 h19 h21 h22 h23 h24 h25 h27 h28 h29 h30 h32 h33 h34 h35 h36 h38 h39 h40 h41 h42 h43 h44 h45 h46 h50 h54 h55
  simp only [i0, i1, i2, i3, i4, i5] at h7 h9 h11 h13 h15 h19 h21 h25 h27
  generalize denF ins 6 defsF_add = ρ at *
  exact g_addX cB (ins 0) (ins 1) (ins 2) (ins 3) (ins 4) (ins 5) _ _ _ _ _ _ _ _ _ _ _ _ _ _ _ _ _ _ _ _ _ _ _ _ _ _ _ _ _ _ _ _ _ _ _ h7 h9 h11 h13 h15 h16 h17 h18 h19 h21 h22 h23 h24 h25 h27 h28 h29 h30 h32 h33 h34 h35 h36 h38 h39 h40 h41 h42 h43 h44 h45 h46 h50 h54 h55
set_option maxRecDepth 10000 in
theorem add_Y (ins : Nat → Fp) : denF ins 6 defsF_add 53 = addY (ins 0) (ins 1) (ins 2) (ins 3) (ins 4) (ins 5) := by
  have h7 := denF_at (ins := ins) inScope_add (i := 1) (by decide) (e := .mul 0 3) rfl
  have h9 := denF_at (ins := ins) inScope_add (i := 3) (by decide) (e := .mul 1 4) rfl
  have h11 := denF_at (ins := ins) inScope_add (i := 5) (by decide) (e := .mul 2 5) rfl
  have h25 := denF_at (ins := ins) inScope_add (i := 19) (by decide) (e := .add 0 2) rfl
  have h27 := denF_at (ins := ins) inScope_add (i := 21) (by decide) (e := .add 3 5) rfl
  have h28 := denF_at (ins := ins) inScope_add (i := 22) (by decide) (e := .mul 25 27) rfl
  have h29 := denF_at (ins := ins) inScope_add (i := 23) (by decide) (e := .add 7 11) rfl
  have h30 := denF_at (ins := ins) inScope_add (i := 24) (by decide) (e := .sub 28 29) rfl
  have h32 := denF_at (ins := ins) inScope_add (i := 26) (by decide) (e := .cb) rfl
  have h33 := denF_at (ins := ins) inScope_add (i := 27) (by decide) (e := .mul 32 11) rfl
  have h34 := denF_at (ins := ins) inScope_add (i := 28) (by decide) (e := .sub 30 33) rfl
  have h35 := denF_at (ins := ins) inScope_add (i := 29) (by decide) (e := .add 34 34) rfl
  have h36 := denF_at (ins := ins) inScope_add (i := 30) (by decide) (e := .add 34 35) rfl
  have h37 := denF_at (ins := ins) inScope_add (i := 31) (by decide) (e := .sub 9 36) rfl
  have h38 := denF_at (ins := ins) inScope_add (i := 32) (by decide) (e := .add 9 36) rfl
  have h39 := denF_at (ins := ins) inScope_add (i := 33) (by decide) (e := .cb) rfl
  have h40 := denF_at (ins := ins) inScope_add (i := 34) (by decide) (e := .mul 39 30) rfl
  have h41 := denF_at (ins := ins) inScope_add (i := 35) (by decide) (e := .add 11 11) rfl
  have h42 := denF_at (ins := ins) inScope_add (i := 36) (by decide) (e := .add 41 11) rfl
  have h43 := denF_at (ins := ins) inScope_add (i := 37) (by decide) (e := .sub 40 42) rfl
  have h44 := denF_at (ins := ins) inScope_add (i := 38) (by decide) (e := .sub 43 7) rfl
  have h45 := denF_at (ins := ins) inScope_add (i := 39) (by decide) (e := .add 44 44) rfl
  have h46 := denF_at (ins := ins) inScope_add (i := 40) (by decide) (e := .add 45 44) rfl
  have h47 := denF_at (ins := ins) inScope_add (i := 41) (by decide) (e := .add 7 7) rfl
  have h48 := denF_at (ins := ins) inScope_add (i := 42) (by decide) (e := .add 47 7) rfl
  have h49 := denF_at (ins := ins) inScope_add (i := 43) (by decide) (e := .sub 48 42) rfl
  have h51 := denF_at (ins := ins) inScope_add (i := 45) (by decide) (e := .mul 49 46) rfl
  have h52 := denF_at (ins := ins) inScope_add (i := 46) (by decide) (e := .mul 38 37) rfl
  have h53 := denF_at (ins := ins) inScope_add (i := 47) (by decide) (e := .add 52 51) rfl
  have i0 : denF ins 6 defsF_add 0 = ins 0 := denF_in (by decide)
  have i1 : denF ins 6 defsF_add 1 = ins 1 := denF_in (by decide)
  have i2 : denF ins 6 defsF_add 2 = ins 2 := denF_in (by decide)
  have i3 : denF ins 6 defsF_add 3 = ins 3 := denF_in (by decide)
  have i4 : denF ins 6 defsF_add 4 = ins 4 := denF_in (by decide)
  have i5 : denF ins 6 defsF_add 5 = ins 5 := denF_in (by decide)
  simp only [Nat.reduceAdd, evF] at h7 h9 h11 h25 h27 h28 h29 h30 h32 h33 h34 h35 h36 h37 h38 h39 h40 h41 h42 h43 h44 h45 h46 h47 h48 h49 h51 h52 h53
  simp only [i0, i1, i2, i3, i4, i5] at h7 h9 h11 h25 h27
  generalize denF ins 6 defsF_add = ρ at *
  exact g_addY cB (ins 0) (ins 1) (ins 2) (ins 3) (ins 4) (ins 5) _ _ _ _ _ _ _ _ _ _ _ _ _ _ _ _ _ _ _ _ _ _ _ _ _ _ _ _ _ h7 h9 h11 h25 h27 h28 h29 h30 h32 h33 h34 h35 h36 h37 h38 h39 h40 h41 h42 h43 h44 h45 h46 h47 h48 h49 h51 h52 h53
set_option maxRecDepth 10000 in
theorem add_Z (ins : Nat → Fp) : denF ins 6 defsF_add 58 = addZ (ins 0) (ins 1) (ins 2) (ins 3) (ins 4) (ins 5) := by
  have h7 := denF_at (ins := ins) inScope_add (i := 1) (by decide) (e := .mul 0 3) rfl
  have h9 := denF_at (ins := ins) inScope_add (i := 3) (by decide) (e := .mul 1 4) rfl
  have h11 := denF_at (ins := ins) inScope_add (i := 5) (by decide) (e := .mul 2 5) rfl
  have h13 := denF_at (ins := ins) inScope_add (i := 7) (by decide) (e := .add 0 1) rfl
  have h15 := denF_at (ins := ins) inScope_add (i := 9) (by decide) (e := .add 3 4) rfl
  have h16 := denF_at (ins := ins) inScope_add (i := 10) (by decide) (e := .mul 13 15) rfl
  have h17 := denF_at (ins := ins) inScope_add (i := 11) (by decide) (e := .add 7 9) rfl
  have h18 := denF_at (ins := ins) inScope_add (i := 12) (by decide) (e := .sub 16 17) rfl
  have h19 := denF_at (ins := ins) inScope_add (i := 13) (by decide) (e := .add 1 2) rfl
  have h21 := denF_at (ins := ins) inScope_add (i := 15) (by decide) (e := .add 4 5) rfl
  have h22 := denF_at (ins := ins) inScope_add (i := 16) (by decide) (e := .mul 19 21) rfl
  have h23 := denF_at (ins := ins) inScope_add (i := 17) (by decide) (e := .add 9 11) rfl
  have h24 := denF_at (ins := ins) inScope_add (i := 18) (by decide) (e := .sub 22 23) rfl
  have h25 := denF_at (ins := ins) inScope_add (i := 19) (by decide) (e := .add 0 2) rfl
  have h27 := denF_at (ins := ins) inScope_add (i := 21) (by decide) (e := .add 3 5) rfl
  have h28 := denF_at (ins := ins) inScope_add (i := 22) (by decide) (e := .mul 25 27) rfl
  have h29 := denF_at (ins := ins) inScope_add (i := 23) (by decide) (e := .add 7 11) rfl
  have h30 := denF_at (ins := ins) inScope_add (i := 24) (by decide) (e := .sub 28 29) rfl
  have h32 := denF_at (ins := ins) inScope_add (i := 26) (by decide) (e := .cb) rfl
  have h33 := denF_at (ins := ins) inScope_add (i := 27) (by decide) (e := .mul 32 11) rfl
  have h34 := denF_at (ins := ins) inScope_add (i := 28) (by decide) (e := .sub 30 33) rfl
  have h35 := denF_at (ins := ins) inScope_add (i := 29) (by decide) (e := .add 34 34) rfl
  have h36 := denF_at (ins := ins) inScope_add (i := 30) (by decide) (e := .add 34 35) rfl
  have h37 := denF_at (ins := ins) inScope_add (i := 31) (by decide) (e := .sub 9 36) rfl
  have h41 := denF_at (ins := ins) inScope_add (i := 35) (by decide) (e := .add 11 11) rfl
  have h42 := denF_at (ins := ins) inScope_add (i := 36) (by decide) (e := .add 41 11) rfl
  have h47 := denF_at (ins := ins) inScope_add (i := 41) (by decide) (e := .add 7 7) rfl
  have h48 := denF_at (ins := ins) inScope_add (i := 42) (by decide) (e := .add 47 7) rfl
  have h49 := denF_at (ins := ins) inScope_add (i := 43) (by decide) (e := .sub 48 42) rfl
  have h56 := denF_at (ins := ins) inScope_add (i := 50) (by decide) (e := .mul 24 37) rfl
  have h57 := denF_at (ins := ins) inScope_add (i := 51) (by decide) (e := .mul 18 49) rfl
  have h58 := denF_at (ins := ins) inScope_add (i := 52) (by decide) (e := .add 56 57) rfl
  have i0 : denF ins 6 defsF_add 0 = ins 0 := denF_in (by decide)
  have i1 : denF ins 6 defsF_add 1 = ins 1 := denF_in (by decide)
  have i2 : denF ins 6 defsF_add 2 = ins 2 := denF_in (by decide)
  have i3 : denF ins 6 defsF_add 3 = ins 3 := denF_in (by decide)
  have i4 : denF ins 6 defsF_add 4 = ins 4 := denF_in (by decide)
  have i5 : denF ins 6 defsF_add 5 = ins 5 := denF_in (by decide)
  simp only [Nat.reduceAdd, evF] at h7 h9 h11 h13 h15 h16 h17 h18 h19 h21 h22 h23 h24 h25 h27 h28 h29 h30 h32 h33 h34 h35 h36 h37 h41 h42 h47 h48 h49 h56 h57 h58
  simp only [i0, i1, i2, i3, i4, i5] at h7 h9 h11 h13 h15 h19 h21 h25 h27
  generalize denF ins 6 defsF_add = ρ at *
  exact g_addZ cB (ins 0) (ins 1) (ins 2) (ins 3) (ins 4) (ins 5) _ _ _ _ _ _ _ _ _ _ _ _ _ _ _ _ _ _ _ _ _ _ _ _ _ _ _ _ _ _ _ _ h7 h9 h11 h13 h15 h16 h17 h18 h19 h21 h22 h23 h24 h25 h27 h28 h29 h30 h32 h33 h34 h35 h36 h37 h41 h42 h47 h48 h49 h56 h57 h58

noncomputable def defsF_mix : List FEx := [.add 48 49, .mul 15 41, .mul 17 28, .sub 46 42, .mul 15 29, .add 44 43, .mul 29 28, .mul 41 38, .mul 17 38, .sub 40 34, .add 39 6, .add 6 6, .add 37 36, .add 36 36, .sub 35 6, .sub 31 34, .add 32 2, .zero, .add 2 2, .mul 30 20, .cb, .add 8 27, .sub 8 27, .add 25 26, .add 25 25, .sub 20 23, .zero, .mul 22 2, .cb, .zero, .add 19 0, .mul 3 2, .zero, .add 16 1, .mul 4 2, .sub 13 14, .add 6 8, .mul 10 12, .add 0 1, .zero, .add 3 4, .zero, .mul 1 4, .zero, .mul 0 3, .zero]
theorem inScope_mix : inScope 5 defsF_mix = true := by decide +kernel
set_option maxRecDepth 10000 in
theorem mix_X (ins : Nat → Fp) : denF ins 5 defsF_mix 47 = addX (ins 0) (ins 1) (ins 2) (ins 3) (ins 4) 1 := by
  have h6 := denF_at (ins := ins) inScope_mix (i := 1) (by decide) (e := .mul 0 3) rfl
  have h8 := denF_at (ins := ins) inScope_mix (i := 3) (by decide) (e := .mul 1 4) rfl
  have h10 := denF_at (ins := ins) inScope_mix (i := 5) (by decide) (e := .add 3 4) rfl
  have h12 := denF_at (ins := ins) inScope_mix (i := 7) (by decide) (e := .add 0 1) rfl
  have h13 := denF_at (ins := ins) inScope_mix (i := 8) (by decide) (e := .mul 10 12) rfl
  have h14 := denF_at (ins := ins) inScope_mix (i := 9) (by decide) (e := .add 6 8) rfl
  have h15 := denF_at (ins := ins) inScope_mix (i := 10) (by decide) (e := .sub 13 14) rfl
  have h16 := denF_at (ins := ins) inScope_mix (i := 11) (by decide) (e := .mul 4 2) rfl
  have h17 := denF_at (ins := ins) inScope_mix (i := 12) (by decide) (e := .add 16 1) rfl
  have h19 := denF_at (ins := ins) inScope_mix (i := 14) (by decide) (e := .mul 3 2) rfl
  have h20 := denF_at (ins := ins) inScope_mix (i := 15) (by decide) (e := .add 19 0) rfl
  have h22 := denF_at (ins := ins) inScope_mix (i := 17) (by decide) (e := .cb) rfl
  have h23 := denF_at (ins := ins) inScope_mix (i := 18) (by decide) (e := .mul 22 2) rfl
  have h25 := denF_at (ins := ins) inScope_mix (i := 20) (by decide) (e := .sub 20 23) rfl
  have h26 := denF_at (ins := ins) inScope_mix (i := 21) (by decide) (e := .add 25 25) rfl
  have h27 := denF_at (ins := ins) inScope_mix (i := 22) (by decide) (e := .add 25 26) rfl
  have h29 := denF_at (ins := ins) inScope_mix (i := 24) (by decide) (e := .add 8 27) rfl
  have h30 := denF_at (ins := ins) inScope_mix (i := 25) (by decide) (e := .cb) rfl
  have h31 := denF_at (ins := ins) inScope_mix (i := 26) (by decide) (e := .mul 30 20) rfl
  have h32 := denF_at (ins := ins) inScope_mix (i := 27) (by decide) (e := .add 2 2) rfl
  have h34 := denF_at (ins := ins) inScope_mix (i := 29) (by decide) (e := .add 32 2) rfl
  have h35 := denF_at (ins := ins) inScope_mix (i := 30) (by decide) (e := .sub 31 34) rfl
  have h36 := denF_at (ins := ins) inScope_mix (i := 31) (by decide) (e := .sub 35 6) rfl
  have h37 := denF_at (ins := ins) inScope_mix (i := 32) (by decide) (e := .add 36 36) rfl
  have h38 := denF_at (ins := ins) inScope_mix (i := 33) (by decide) (e := .add 37 36) rfl
  have h42 := denF_at (ins := ins) inScope_mix (i := 37) (by decide) (e := .mul 17 38) rfl
  have h46 := denF_at (ins := ins) inScope_mix (i := 41) (by decide) (e := .mul 15 29) rfl
  have h47 := denF_at (ins := ins) inScope_mix (i := 42) (by decide) (e := .sub 46 42) rfl
  have i0 : denF ins 5 defsF_mix 0 = ins 0 := denF_in (by decide)
  have i1 : denF ins 5 defsF_mix 1 = ins 1 := denF_in (by decide)
  have i2 : denF ins 5 defsF_mix 2 = ins 2 := denF_in (by decide)
  have i3 : denF ins 5 defsF_mix 3 = ins 3 := denF_in (by decide)
  have i4 : denF ins 5 defsF_mix 4 = ins 4 := denF_in (by decide)
  simp only [Nat.reduceAdd, evF] at h6 h8 h10 h12 h13 h14 h15 h16 h17 h19 h20 h22 h23 h25 h26 h27 h29 h30 h31 h32 h34 h35 h36 h37 h38 h42 h46 h47
  simp only [i0, i1, i2, i3, i4] at h6 h8 h10 h12 h16 h17 h19 h20 h23 h32 h34
  generalize denF ins 5 defsF_mix = ρ at *
  exact g_mixX cB (ins 0) (ins 1) (ins 2) (ins 3) (ins 4) _ _ _ _ _ _ _ _ _ _ _ _ _ _ _ _ _ _ _ _ _ _ _ _ _ _ _ _ h6 h8 h10 h12 h13 h14 h15 h16 h17 h19 h20 h22 h23 h25 h26 h27 h29 h30 h31 h32 h34 h35 h36 h37 h38 h42 h46 h47
set_option maxRecDepth 10000 in
theorem mix_Y (ins : Nat → Fp) : denF ins 5 defsF_mix 45 = addY (ins 0) (ins 1) (ins 2) (ins 3) (ins 4) 1 := by
  have h6 := denF_at (ins := ins) inScope_mix (i := 1) (by decide) (e := .mul 0 3) rfl
  have h8 := denF_at (ins := ins) inScope_mix (i := 3) (by decide) (e := .mul 1 4) rfl
  have h19 := denF_at (ins := ins) inScope_mix (i := 14) (by decide) (e := .mul 3 2) rfl
  have h20 := denF_at (ins := ins) inScope_mix (i := 15) (by decide) (e := .add 19 0) rfl
  have h22 := denF_at (ins := ins) inScope_mix (i := 17) (by decide) (e := .cb) rfl
  have h23 := denF_at (ins := ins) inScope_mix (i := 18) (by decide) (e := .mul 22 2) rfl
  have h25 := denF_at (ins := ins) inScope_mix (i := 20) (by decide) (e := .sub 20 23) rfl
  have h26 := denF_at (ins := ins) inScope_mix (i := 21) (by decide) (e := .add 25 25) rfl
  have h27 := denF_at (ins := ins) inScope_mix (i := 22) (by decide) (e := .add 25 26) rfl
  have h28 := denF_at (ins := ins) inScope_mix (i := 23) (by decide) (e := .sub 8 27) rfl
  have h29 := denF_at (ins := ins) inScope_mix (i := 24) (by decide) (e := .add 8 27) rfl
  have h30 := denF_at (ins := ins) inScope_mix (i := 25) (by decide) (e := .cb) rfl
  have h31 := denF_at (ins := ins) inScope_mix (i := 26) (by decide) (e := .mul 30 20) rfl
  have h32 := denF_at (ins := ins) inScope_mix (i := 27) (by decide) (e := .add 2 2) rfl
  have h34 := denF_at (ins := ins) inScope_mix (i := 29) (by decide) (e := .add 32 2) rfl
  have h35 := denF_at (ins := ins) inScope_mix (i := 30) (by decide) (e := .sub 31 34) rfl
  have h36 := denF_at (ins := ins) inScope_mix (i := 31) (by decide) (e := .sub 35 6) rfl
  have h37 := denF_at (ins := ins) inScope_mix (i := 32) (by decide) (e := .add 36 36) rfl
  have h38 := denF_at (ins := ins) inScope_mix (i := 33) (by decide) (e := .add 37 36) rfl
  have h39 := denF_at (ins := ins) inScope_mix (i := 34) (by decide) (e := .add 6 6) rfl
  have h40 := denF_at (ins := ins) inScope_mix (i := 35) (by decide) (e := .add 39 6) rfl
  have h41 := denF_at (ins := ins) inScope_mix (i := 36) (by decide) (e := .sub 40 34) rfl
  have h43 := denF_at (ins := ins) inScope_mix (i := 38) (by decide) (e := .mul 41 38) rfl
  have h44 := denF_at (ins := ins) inScope_mix (i := 39) (by decide) (e := .mul 29 28) rfl
  have h45 := denF_at (ins := ins) inScope_mix (i := 40) (by decide) (e := .add 44 43) rfl
  have i0 : denF ins 5 defsF_mix 0 = ins 0 := denF_in (by decide)
  have i1 : denF ins 5 defsF_mix 1 = ins 1 := denF_in (by decide)
  have i2 : denF ins 5 defsF_mix 2 = ins 2 := denF_in (by decide)
  have i3 : denF ins 5 defsF_mix 3 = ins 3 := denF_in (by decide)
  have i4 : denF ins 5 defsF_mix 4 = ins 4 := denF_in (by decide)
  simp only [Nat.reduceAdd, evF] at h6 h8 h19 h20 h22 h23 h25 h26 h27 h28 h29 h30 h31 h32 h34 h35 h36 h37 h38 h39 h40 h41 h43 h44 h45
  simp only [i0, i1, i2, i3, i4] at h6 h8 h19 h20 h23 h32 h34
  generalize denF ins 5 defsF_mix = ρ at *
  exact g_mixY cB (ins 0) (ins 1) (ins 2) (ins 3) (ins 4) _ _ _ _ _ _ _ _ _ _ _ _ _ _ _ _ _ _ _ _ _ _ _ _ _ h6 h8 h19 h20 h22 h23 h25 h26 h27 h28 h29 h30 h31 h32 h34 h35 h36 h37 h38 h39 h40 h41 h43 h44 h45
set_option maxRecDepth 10000 in
theorem mix_Z (ins : Nat → Fp) : denF ins 5 defsF_mix 50 = addZ (ins 0) (ins 1) (ins 2) (ins 3) (ins 4) 1 := by
  have h6 := denF_at (ins := ins) inScope_mix (i := 1) (by decide) (e := .mul 0 3) rfl
  have h8 := denF_at (ins := ins) inScope_mix (i := 3) (by decide) (e := .mul 1 4) rfl
  have h10 := denF_at (ins := ins) inScope_mix (i := 5) (by decide) (e := .add 3 4) rfl
  have h12 := denF_at (ins := ins) inScope_mix (i := 7) (by decide) (e := .add 0 1) rfl
  have h13 := denF_at (ins := ins) inScope_mix (i := 8) (by decide) (e := .mul 10 12) rfl
  have h14 := denF_at (ins := ins) inScope_mix (i := 9) (by decide) (e := .add 6 8) rfl
  have h15 := denF_at (ins := ins) inScope_mix (i := 10) (by decide) (e := .sub 13 14) rfl
  have h16 := denF_at (ins := ins) inScope_mix (i := 11) (by decide) (e := .mul 4 2) rfl
  have h17 := denF_at (ins := ins) inScope_mix (i := 12) (by decide) (e := .add 16 1) rfl
  have h19 := denF_at (ins := ins) inScope_mix (i := 14) (by decide) (e := .mul 3 2) rfl
  have h20 := denF_at (ins := ins) inScope_mix (i := 15) (by decide) (e := .add 19 0) rfl
  have h22 := denF_at (ins := ins) inScope_mix (i := 17) (by decide) (e := .cb) rfl
  have h23 := denF_at (ins := ins) inScope_mix (i := 18) (by decide) (e := .mul 22 2) rfl
  have h25 := denF_at (ins := ins) inScope_mix (i := 20) (by decide) (e := .sub 20 23) rfl
  have h26 := denF_at (ins := ins) inScope_mix (i := 21) (by decide) (e := .add 25 25) rfl
  have h27 := denF_at (ins := ins) inScope_mix (i := 22) (by decide) (e := .add 25 26) rfl
  have h28 := denF_at (ins := ins) inScope_mix (i := 23) (by decide) (e := .sub 8 27) rfl
  have h32 := denF_at (ins := ins) inScope_mix (i := 27) (by decide) (e := .add 2 2) rfl
  have h34 := denF_at (ins := ins) inScope_mix (i := 29) (by decide) (e := .add 32 2) rfl
  have h39 := denF_at (ins := ins) inScope_mix (i := 34) (by decide) (e := .add 6 6) rfl
  have h40 := denF_at (ins := ins) inScope_mix (i := 35) (by decide) (e := .add 39 6) rfl
  have h41 := denF_at (ins := ins) inScope_mix (i := 36) (by decide) (e := .sub 40 34) rfl
  have h48 := denF_at (ins := ins) inScope_mix (i := 43) (by decide) (e := .mul 17 28) rfl
  have h49 := denF_at (ins := ins) inScope_mix (i := 44) (by decide) (e := .mul 15 41) rfl
  have h50 := denF_at (ins := ins) inScope_mix (i := 45) (by decide) (e := .add 48 49) rfl
  have i0 : denF ins 5 defsF_mix 0 = ins 0 := denF_in (by decide)
  have i1 : denF ins 5 defsF_mix 1 = ins 1 := denF_in (by decide)
  have i2 : denF ins 5 defsF_mix 2 = ins 2 := denF_in (by decide)
  have i3 : denF ins 5 defsF_mix 3 = ins 3 := denF_in (by decide)
  have i4 : denF ins 5 defsF_mix 4 = ins 4 := denF_in (by decide)
  simp only [Nat.reduceAdd, evF] at h6 h8 h10 h12 h13 h14 h15 h16 h17 h19 h20 h22 h23 h25 h26 h27 h28 h32 h34 h39 h40 h41 h48 h49 h50
  simp only [i0, i1, i2, i3, i4] at h6 h8 h10 h12 h16 h17 h19 h20 h23 h32 h34
  generalize denF ins 5 defsF_mix = ρ at *
  exact g_mixZ cB (ins 0) (ins 1) (ins 2) (ins 3) (ins 4) _ _ _ _ _ _ _ _ _ _ _ _ _ _ _ _ _ _ _ _ _ _ _ _ _ h6 h8 h10 h12 h13 h14 h15 h16 h17 h19 h20 h22 h23 h25 h26 h27 h28 h32 h34 h39 h40 h41 h48 h49 h50
end Go.Proofs.Ytgdjmgcolipcnaa
