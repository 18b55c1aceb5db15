/-
  What is proved here: slices.Clone of bytes returns a slice of its own with the same bytes.
  Conditions: those of the theorem.
-/
import Derived.Test.YtgdjmgcolipcnaaProg
import Derived.Test.YtgdjmgcolipcnaaNumRegMem
import Derived.WalkKit
import Derived.OwnWalk
import Derived.Laws.AppendOwn
import Derived.Lib.Hide
import Derived.Lib.SliceRun
import Derived.Test.YtgdjmgcolipcnaaPts
import Derived.Test.YtgdjmgcolipcnaaByuSet
import Derived.Test.YtgdjmgcolipcnaaSpecISpecJ
import Derived.Deep.RegionHeld3
import Derived.WalkSpells
import Derived.Outline
import Derived.Handy
import Derived.ProofKit
import Derived.Deep.QuietTactic
import Derived.BigQuiet
import Derived.OpenShut
namespace Go.Proofs.Ytgdjmgcolipcnaa
open Go.RowKit
set_option linter.unusedSimpArgs false
set_option linter.unusedVariables false

theorem info_u8 : (Try.prog.info? 5).map (fun i => (i.zero, i.size, i.bytes)) = some (some (.int .u8 0), 1, 1) := by kernel_rfl
theorem eql_nil_slice (w : World) (a : Option Addr) (n c n' c' : Nat) : (binOp .eql 50 (.slice a n c) (.slice none n' c')).run Try.prog w = .ok (.bool a.isNone) w := by
  exact Lib.run_eql_slice_nil w _ _ a n c n' c' Try.underlying50

set_option maxHeartbeats 2000000 in
set_option maxRecDepth 100000 in
theorem Clone_any (b off n c : Nat) (l : Nat → Int) (w : World) (hn0 : 0 < n) (hn : n ≤ 100000000) (hc : ∀ j, j < n → w.cell? ⟨b, off + j, none⟩ = some (.int .u8 (l j))) :
    Calls Try.prog 24 #[.slice (some ⟨b, off, none⟩) n c] w fun e w' => ∃ g cap, e = .returned (.slice (some ⟨g, 0, none⟩) n cap) ∧ w.heap.size ≤ g ∧ g < w'.heap.size ∧ n ≤ cap ∧
      (∀ j, j < n → w'.cell? ⟨g, j, none⟩ = some (.int .u8 (l j))) ∧ (∀ o, w'.frozen? ⟨g, o, none⟩ = false) ∧ Ext w w' := by
  obtain ⟨i0, hi, hz0, hz1, hz2⟩ := info_parts info_u8
  have A : Hid (∀ j, j < n → w.cell? ⟨b, off + j, none⟩ = some (.int .u8 (l j))) := Lib.hid hc
  clear hc
  have q := eql_nil_slice
  go_enter Try.func24, Try.ntmps24
  go_wp2_with (at_builtin; refine wpList_append_own _ rfl _ _ 50 rfl w.heap.size 5 i0 (.int .u8 0) 1 1 Try.underlying50 hi hz0 hz1 hz2 rfl (by decide) _ _ _ rfl (World.ownsRow_made w #[] 0 (Nat.le_refl _) (Nat.zero_le _) rfl) ⟨b, off, none⟩ n c ((List.range n).map (fun j => Value.int .u8 (l j))) rfl ?qc1 ?qc2 ?qc3 ?qc4 ?qc5 ?qc6 ?_)
  case qc1 => simp
  case qc2 =>
    intro j u hj
    rw [List.getElem?_map] at hj
    obtain ⟨k, hk, rfl⟩ := Option.map_eq_some_iff.1 hj
    have hjn : j < n := by
      have := (List.getElem?_eq_some_iff.1 hk).1
      simpa using this
    rw [List.getElem?_range hjn] at hk
    obtain rfl := Option.some.inj hk
    rw [Addr.add_lit, World.cell?_alloc_old]
    · exact A.out j hjn
    · intro h
      have := A.out j hjn
      unfold World.cell? at this
      have h' : b = w.heap.size := h
      rw [Array.getElem?_eq_none (show w.heap.size ≤ b by omega)] at this
      cases this
  case qc3 => intro u hu; obtain ⟨x, _, rfl⟩ := List.mem_map.1 hu; rfl
  case qc4 => unfold maxLen; omega
  case qc5 => omega
  case qc6 => simp
  intro v' w1 hown hgrow hnil
  go_wp2
  go_ret
  have hown' : w1.ownsRow w.heap.size 5 1 v' n ((List.range n).map (fun j => Value.int .u8 (l j))) := by simpa using hown
  have hg : w.grownBy w1 none ∨ True := .inr trivial
  have hbel : Below w.heap.size w w1 := ((Below.refl _ w).alloc (Nat.le_refl _) _).grown hgrow (by simp) (by intro k hk; simp [Value.ownBlock] at hk; omega)
  obtain ⟨hlen, h0 | ⟨g, cap, cur, rfl, hbg, hh, hcap, _, hsz, htk⟩⟩ := hown'
  · omega
  · refine ⟨g, cap, rfl, hbg, ?_, hcap, ?_, ?_, Ext.of_below hbel⟩
    · rcases Nat.lt_or_ge g w1.heap.size with h | h
      · exact h
      · rw [Array.getElem?_eq_none h] at hh; cases hh
    · intro j hj
      unfold World.cell?
      rw [hh]
      have h1 : cur.toList[j]? = some (Value.int .u8 (l j)) := by
        have h2 : (cur.toList.take (n * 1))[j]? = some (Value.int .u8 (l j)) := by
          rw [htk, List.getElem?_map, List.getElem?_range hj]; rfl
        rw [List.getElem?_take] at h2
        split at h2
        · exact h2
        · cases h2
      simpa using h1
    · intro o
      unfold World.frozen?
      rw [hh]
      simp
end Go.Proofs.Ytgdjmgcolipcnaa
/-
  What is proved here: what making a point of three coordinates returns, and what telling it returns.
  Conditions: those of each theorem.
-/
namespace Go.Proofs.Ytgdjmgcolipcnaa
open Go Go.RowKit Ecp
set_option linter.unusedSimpArgs false
set_option linter.unusedVariables false

theorem cell_ext' {u v : World} (h : Ext u v) {b o : Nat} {x : Value} (hc : u.cell? ⟨b, o, none⟩ = some x) : v.cell? ⟨b, o, none⟩ = some x := by
  obtain ⟨g, rfl⟩ := h
  rw [cell?_ext _ _ _ _ (lt_of_cell hc)]
  exact hc
theorem held_of_cells {w : World} {g : Nat} {l : List Int} (hl : l.length = 32) (h : ∀ j, j < 32 → w.cell? ⟨g, j, none⟩ = some (.int .u8 (l.getD j 0))) : Held .u8 w g 0 l := fun i x hi => by
  have hlt := (List.getElem?_eq_some_iff.1 hi).1
  rw [Nat.zero_add, h i (by omega)]
  have := getD_in' hlt
  rw [hi] at this
  rw [← Option.some.inj this]
theorem Turned.part {b o len o' len' : Nat} {w w' : World} (h : Turned b o' len' w w') (h1 : o ≤ o') (h2 : o' + len' ≤ o + len) : Turned b o len w w' :=
  ⟨h.away, fun i hi => h.keep i (fun j hj => by
    have := hi (o' - o + j) (by omega)
    omega), h.frz⟩
theorem bc_open (S : Int) : ∃ d0 d1 d2 d3 d4 d5 d6 d7 d8 d9 d10 d11 d12 d13 d14 d15 d16 d17 d18 d19 d20 d21 d22 d23 d24 d25 d26 d27 d28 d29 d30 d31 : Int, bc S = #[.int .u8 d0, .int .u8 d1, .int .u8 d2, .int .u8 d3, .int .u8 d4, .int .u8 d5, .int .u8 d6, .int .u8 d7, .int .u8 d8, .int .u8 d9, .int .u8 d10, .int .u8 d11, .int .u8 d12, .int .u8 d13, .int .u8 d14, .int .u8 d15, .int .u8 d16, .int .u8 d17, .int .u8 d18, .int .u8 d19, .int .u8 d20, .int .u8 d21, .int .u8 d22, .int .u8 d23, .int .u8 d24, .int .u8 d25, .int .u8 d26, .int .u8 d27, .int .u8 d28, .int .u8 d29, .int .u8 d30, .int .u8 d31] := by
  obtain ⟨d0, d1, d2, d3, d4, d5, d6, d7, d8, d9, d10, d11, d12, d13, d14, d15, d16, d17, d18, d19, d20, d21, d22, d23, d24, d25, d26, d27, d28, d29, d30, d31, hd, _⟩ := B32_open S
  refine ⟨d31, d30, d29, d28, d27, d26, d25, d24, d23, d22, d21, d20, d19, d18, d17, d16, d15, d14, d13, d12, d11, d10, d9, d8, d7, d6, d5, d4, d3, d2, d1, d0, ?_⟩
  unfold bc
  rw [hd]
  rfl
theorem bc_def (S : Int) : bc S = ((bds 32 S).reverse.map (Value.int .u8)).toArray := by unfold bc; rfl
theorem bc_at (S : Int) (j : Nat) (h : j < 32) : (bc S)[j]? = some (.int .u8 ((bds 32 S).reverse.getD j 0)) := by
  have hl : j < (bds 32 S).reverse.length := by rw [rev_len]; exact h
  rw [bc_def]
  generalize (bds 32 S).reverse = l at hl ⊢
  simp [List.getD, hl]
theorem exec_alloc_row {P : Program} {T : TypeId} {z : Array Value} (hz : ∀ w, (zeroValue T).run P w = .ok (.agg z) w) {o : Oper} (ho : o.op = .alloc T) (ev : Operand → Value) (w : World) :
    (execOp ev o).run P w = .ok (.value (.pointer (some ⟨w.heap.size, 0, none⟩))) (w.alloc (.cells z T)) := by
  unfold execOp
  simp only [ho, Instr.alloc, Sem.run_bind, hz, Result.andThen_ok]
  simp [newVar, Value.cells, go_sem]
theorem wpList_alloc_row {P : Program} {ops : Array Oper} {rest : List Oper} {o : Oper} {a : Act} {w : World} {Q : Exit → Act → World → Prop} (hw : Region.wanted o (yielded ops a.tmps) = true) (T : TypeId) (z : Array Value) (ho : o.op = .alloc T) (hz : ∀ w, (zeroValue T).run P w = .ok (.agg z) w)
    (h : wpList P ops Q rest (a.put o.dst (.pointer (some ⟨w.heap.size, 0, none⟩))) (w.alloc (.cells z T))) : wpList P ops Q (o :: rest) a w :=
  wpList_want hw fun _ hK => by
    unfold Oper.wp
    rw [exec_alloc_row hz ho]
    exact hK _ _ h
theorem quiet_s2ap {P : Program} {o : Oper} {a : Act} {C : World → Prop} {K : Act → Prop} (arr : TypeId) (x : Operand) (ho : o.op = .sliceToArrayPointer arr x) (g n cap : Nat) (e : TypeId) (hu : P.underlying arr = some (.array n e)) (hx : a.eval x = .slice (some ⟨g, 0, none⟩) n cap)
    (h : K (a.put o.dst (.pointer (some ⟨g, 0, none⟩)))) : o.quiet P a C K :=
  ⟨.pointer (some ⟨g, 0, none⟩), fun w hw => by
    unfold Oper.quietAt execOp
    simp only [ho, hx, Instr.arrayAt, Sem.run_bind, run_underlying hu, Result.andThen_ok]
    simp [Oper.quietUpon, go_sem], h⟩
theorem quiet_load_bc {P : Program} {o : Oper} {a : Act} {C : World → Prop} {K : Act → Prop} (ty : TypeId) (x : Operand) (ho : o.op = .load ty x) (g : Nat) (hx : a.eval x = .pointer (some ⟨g, 0, none⟩)) (S : Int) (hh : ∀ w, C w → Held .u8 w g 0 (bds 32 S).reverse) (d : TypeDesc)
    (hu : P.underlying ty = some d) (hd : d.isRow = true) (hi : (P.info? ty).map (·.size) = some (bc S).size) (h : K (a.put o.dst (.agg (bc S)))) : o.quiet P a C K :=
  ⟨.agg (bc S), fun w hw => by
    unfold Oper.quietAt execOp
    have hr : w.rangeAt g 0 (bc S).toList := fun j v hv => by
      have hb := hh w hw
      rw [Array.getElem?_toList] at hv
      have hj : j < 32 := by
        have := (Array.getElem?_eq_some_iff.1 hv).1
        rwa [bc_size] at this
      rw [bc_at S j hj] at hv
      rw [← hv]
      have hl : j < (bds 32 S).reverse.length := by rw [rev_len]; exact hj
      exact hb j _ (getD_in' hl)
    have h1 := run_loadVar_mid (P := P) w g 0 ty (bc S).toList d hr hu hd (by rw [hi, Array.length_toList])
    rw [Array.toArray_toList] at h1
    simp only [ho, hx, Instr.loadAt, Instr.sureAddr, Sem.run_bind, Sem.run_pure, Result.andThen_ok, h1]
    exact ⟨rfl, rfl⟩, h⟩
theorem tc_at (X Y Z : Int) (j : Nat) (h : j < 32) : (tc X Y Z)[j]? = some (.int .u8 ((bds 32 X).reverse.getD j 0)) ∧ (tc X Y Z)[32 + j]? = some (.int .u8 ((bds 32 Y).reverse.getD j 0)) ∧ (tc X Y Z)[64 + j]? = some (.int .u8 ((bds 32 Z).reverse.getD j 0)) := by
  have e : tc X Y Z = bc X ++ bc Y ++ bc Z := by unfold tc; rfl
  have hX := bc_size X
  have hY := bc_size Y
  have hZ := bc_size Z
  refine ⟨?_, ?_, ?_⟩
  · rw [e, Array.getElem?_append_left (by rw [Array.size_append]; omega), Array.getElem?_append_left (by omega), bc_at _ _ h]
  · rw [e, Array.getElem?_append_left (by rw [Array.size_append]; omega), Array.getElem?_append_right (by omega), show 32 + j - (bc X).size = j by omega, bc_at _ _ h]
  · rw [e, Array.getElem?_append_right (by rw [Array.size_append]; omega), Array.size_append, show 64 + j - ((bc X).size + (bc Y).size) = j by omega, bc_at _ _ h]
theorem lay_fold (off : Nat) : ∀ (l : List Value) (j0 : Nat) (cs : Array Value) (i : Nat), ((l.zipIdx j0).foldl (fun cs (c, j) => cs.setIfInBounds (off + j) c) cs)[i]? = if off + j0 ≤ i ∧ i < off + j0 + l.length ∧ i < cs.size then l[i - (off + j0)]? else cs[i]?
  | [], j0, cs, i => by
    rw [if_neg (by simp; omega)]
    rfl
  | c :: l, j0, cs, i => by
    rw [List.zipIdx_cons, List.foldl_cons, lay_fold off l (j0 + 1) _ i]
    simp only [Array.size_setIfInBounds, List.length_cons]
    by_cases h : off + (j0 + 1) ≤ i ∧ i < off + (j0 + 1) + l.length ∧ i < cs.size
    · rw [if_pos h, if_pos (by omega), show i - (off + j0) = (i - (off + (j0 + 1))) + 1 by omega, List.getElem?_cons_succ]
    · rw [if_neg h, Array.getElem?_setIfInBounds]
      by_cases e : off + j0 = i
      · subst e
        rw [if_pos rfl]
        by_cases hs : off + j0 < cs.size
        · rw [if_pos hs, if_pos (by omega), Nat.sub_self]
          rfl
        · rw [if_neg hs, if_neg (by omega), Array.getElem?_eq_none (by omega)]
      · rw [if_neg e, if_neg (by omega)]
theorem fill_one (place : Nat → Option (Nat × Nat)) (cs X : Array Value) (i off : Nat) (rest : List (Nat × Value)) (hp : place i = some (off, X.size)) (hs : off + X.size ≤ cs.size) :
    ∃ cs', Instr.fill place cs ((i, .agg X) :: rest) = Instr.fill place cs' rest ∧ cs'.size = cs.size ∧ ∀ k, cs'[k]? = if off ≤ k ∧ k < off + X.size then X[k - off]? else cs[k]? := by
  refine ⟨X.zipIdx.foldl (fun cs (c, j) => cs.setIfInBounds (off + j) c) cs, ?_, ?_, fun k => ?_⟩
  · rw [Instr.fill, hp]
    show (if _ then _ else _) = _
    split
    · rename_i h
      exact absurd h (by simp [Value.cells]; omega)
    · rfl
  · rw [← Array.foldl_toList]
    generalize X.zipIdx.toList = l
    clear hs hp
    induction l generalizing cs with
    | nil => rfl
    | cons p l ih => rw [List.foldl_cons, ih, Array.size_setIfInBounds]
  · rw [← Array.foldl_toList, Array.toList_zipIdx, lay_fold off X.toList 0 cs k]
    simp only [Nat.add_zero, Array.length_toList, Array.getElem?_toList]
    by_cases h : off ≤ k ∧ k < off + X.size
    · rw [if_pos (by omega), if_pos h]
    · rw [if_neg (by omega), if_neg h]
theorem built_fill (parts : List (Nat × Value)) : Try.prog.built 24 parts = Instr.fill (#[((0 : Nat), (32 : Nat)), (32, 32), (64, 32)][·]?) (Array.replicate 96 (.int .u8 0)) parts := by kernel_rfl
theorem builtT (X Y Z : Int) : Try.prog.built 24 [(0, .agg (bc X)), (1, .agg (bc Y)), (2, .agg (bc Z))] = some (tc X Y Z) := by
  have sX := bc_size X
  have sY := bc_size Y
  have sZ := bc_size Z
  have e : tc X Y Z = bc X ++ bc Y ++ bc Z := by unfold tc; rfl
  rw [built_fill]
  obtain ⟨c1, e1, z1, g1⟩ := fill_one (#[((0 : Nat), (32 : Nat)), (32, 32), (64, 32)][·]?) (Array.replicate 96 (.int .u8 0)) (bc X) 0 0 [(1, .agg (bc Y)), (2, .agg (bc Z))] (by rw [sX]; rfl) (by rw [sX, Array.size_replicate]; decide)
  rw [Array.size_replicate] at z1
  obtain ⟨c2, e2, z2, g2⟩ := fill_one (#[((0 : Nat), (32 : Nat)), (32, 32), (64, 32)][·]?) c1 (bc Y) 1 32 [(2, .agg (bc Z))] (by rw [sY]; rfl) (by rw [sY, z1]; decide)
  obtain ⟨c3, e3, z3, g3⟩ := fill_one (#[((0 : Nat), (32 : Nat)), (32, 32), (64, 32)][·]?) c2 (bc Z) 2 64 [] (by rw [sZ]; rfl) (by rw [sZ, z2, z1]; decide)
  rw [e1, e2, e3, Instr.fill, e]
  congr 1
  apply Array.ext_getElem?
  intro k
  rw [g3, g2, g1, sX, sY, sZ]
  have hs : (bc X ++ bc Y).size = 64 := by rw [Array.size_append, sX, sY]
  by_cases h3 : 64 ≤ k ∧ k < 64 + 32
  · rw [if_pos h3, Array.getElem?_append_right (by omega), hs]
  · rw [if_neg h3]
    by_cases h2 : 32 ≤ k ∧ k < 32 + 32
    · rw [if_pos h2, Array.getElem?_append_left (by omega), Array.getElem?_append_right (by omega), sX]
    · rw [if_neg h2]
      by_cases h1 : 0 ≤ k ∧ k < 0 + 32
      · rw [if_pos h1, Array.getElem?_append_left (by omega), Array.getElem?_append_left (by omega)]
        rfl
      · rw [if_neg h1, Array.getElem?_eq_none (by rw [Array.size_replicate]; omega), Array.getElem?_eq_none (by rw [Array.size_append, hs, sZ]; omega)]
theorem builtT0 : Try.prog.built 24 [] = some (tc 0 0 0) := by
  have e : tc 0 0 0 = bc 0 ++ bc 0 ++ bc 0 := by unfold tc; rfl
  rw [built_fill, e, bc_def]
  rfl
set_option maxRecDepth 100000 in
theorem zeroT : ∀ w, (zeroValue 24).run Try.prog w = .ok (.agg (tc 0 0 0)) w := by
  have e : tc 0 0 0 = bc 0 ++ bc 0 ++ bc 0 := by unfold tc; rfl
  rw [e, bc_def]
  exact (zero_of_info (P := Try.prog) (n := 96) (by kernel_rfl)).1
end Go.Proofs.Ytgdjmgcolipcnaa
