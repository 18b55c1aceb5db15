/-
  What is proved here: what the mixed sum and the double by three coordinates return.
  Conditions: those of each theorem.
-/
import Derived.Test.YtmepgkcijeobkaaProg
import Derived.Test.YtmepgkcijeobkaaEleElo
import Derived.Test.YtmepgkcijeobkaaDbl
import Derived.Test.YtmepgkcijeobkaaPrj
import Derived.Deep.RegionHeld3
import Derived.WalkKit
import Derived.WalkSpells
import Derived.Outline
import Derived.Handy
import Derived.ProofKit
import Derived.Deep.QuietTactic
import Derived.BigQuiet
import Derived.Lib.Hide
import Derived.OpenShut
namespace Go.Proofs.Ytmepgkcijeobkaa
open Go Go.RowKit Ecp
set_option linter.unusedSimpArgs false
set_option linter.unusedVariables false

theorem qds_arr (v : Int) : ((qds 4 v).map (Value.int .u64)).toArray.size = 4 := by simp [qds_length]
theorem range_elt {w : World} {b o : Nat} {x : Fp} (h : Elt w b o x) : w.rangeAt b o (((qds 4 (mont x)).map (Value.int .u64)).toArray).toList := fun j v hv => by
  have hj : j < (qds 4 (mont x)).length := by
    have := (List.getElem?_eq_some_iff.1 hv).1
    simpa using this
  have := h j _ (List.getElem?_eq_getElem hj)
  rw [this, ← hv]
  simp [hj]
/-- The row of an element. -/
def er (x : Fp) : Array Value := ((qds 4 (mont x)).map (Value.int .u64)).toArray
theorem er_size (x : Fp) : (er x).size = 4 := by simp [er, qds_length]
theorem inEl (x : Fp) : (Try.prog.info? 111).map (·.size) = some (er x).size := by rw [er_size]; kernel_rfl
theorem er_open (x : Fp) : ∃ a0 a1 a2 a3 : Int, er x = #[.int .u64 a0, .int .u64 a1, .int .u64 a2, .int .u64 a3] := by
  obtain ⟨a0, a1, a2, a3, hq, _, _⟩ := limbs (mont_bd' x).1 (mont_bd' x).2
  exact ⟨a0, a1, a2, a3, by unfold er; rw [hq]; rfl⟩
theorem elt_row1 {w : World} {b : Nat} {x y : Fp} {t : TypeId} {fr : Nat × Nat} (h : w.heap[b]? = some (.cells (er x ++ er y) t fr)) : Elt w b 0 x ∧ Elt w b 4 y := by
  constructor
  · intro i v hi
    have hl := (List.getElem?_eq_some_iff.1 hi).1
    have hl' := hl
    rw [qds_length] at hl'
    rw [Nat.zero_add, cell_of_row _ _ _ _ _ _ h, Array.getElem?_append_left (by rw [er_size]; omega)]
    simp [er, hi]
  · intro i v hi
    have hl := (List.getElem?_eq_some_iff.1 hi).1
    have hl' := hl
    rw [qds_length] at hl'
    rw [cell_of_row _ _ _ _ _ _ h, Array.getElem?_append_right (by rw [er_size]; omega), er_size, show 4 + i - 4 = i by omega]
    simp [er, hi]
theorem quiet_load_er {P : Program} {o : Oper} {a : Act} {C : World → Prop} {K : Act → Prop} (ty : TypeId) (x : Operand) (ho : o.op = .load ty x) (g off : Nat) (hx : a.eval x = .pointer (some ⟨g, off, none⟩)) (S : Fp) (hh : ∀ w, C w → Elt w g off S) (d : TypeDesc)
    (hu : P.underlying ty = some d) (hd : d.isRow = true) (hi : (P.info? ty).map (·.size) = some (er S).size) (h : K (a.put o.dst (.agg (er S)))) : o.quiet P a C K :=
  ⟨.agg (er S), fun w hw => by
    unfold Oper.quietAt execOp
    have h1 := run_loadVar_mid (P := P) w g off ty (er S).toList d (range_elt (hh w hw)) hu hd (by rw [hi, Array.length_toList])
    rw [Array.toArray_toList] at h1
    simp only [ho, hx, Instr.loadAt, Instr.sureAddr, Sem.run_bind, Sem.run_pure, Result.andThen_ok, h1]
    exact ⟨rfl, rfl⟩, h⟩
theorem elt_lit {w : World} {b : Nat} {x y : Fp} {p0 p1 p2 p3 q0 q1 q2 q3 : Int} (t : TypeId) (fr : Nat × Nat) (hx : qds 4 (mont x) = [p0, p1, p2, p3]) (hy : qds 4 (mont y) = [q0, q1, q2, q3])
    (h : w.heap[b]? = some (.cells #[.int .u64 p0, .int .u64 p1, .int .u64 p2, .int .u64 p3, .int .u64 q0, .int .u64 q1, .int .u64 q2, .int .u64 q3] t fr)) : Elt w b 0 x ∧ Elt w b 4 y := by
  refine elt_row1 (t := t) (fr := fr) ?_
  rw [h]
  congr 2
  unfold er
  rw [hx, hy]
  rfl
theorem builtA (x y : Fp) : Try.prog.built 146 [(0, .agg (er x)), (1, .agg (er y))] = some (er x ++ er y) := by
  obtain ⟨a0, a1, a2, a3, e⟩ := er_open x
  obtain ⟨b0, b1, b2, b3, f⟩ := er_open y
  rw [e, f]
  kernel_rfl
attribute [irreducible] er
set_option maxHeartbeats 1000000 in
set_option maxRecDepth 100000 in
theorem ZZAff0_any (b b1 b2 : Nat) (X Y Z x y : Fp) (w : World) (hb : b < w.heap.size) (hb1 : b1 < w.heap.size) (hb2 : b2 < w.heap.size) (hp : Pnt w b 0 X Y Z) (hx : Elt w b1 0 x) (hy : Elt w b2 0 y) :
    Calls Try.prog 76 #[.pointer (some ⟨b, 0, none⟩), .pointer (some ⟨b1, 0, none⟩), .pointer (some ⟨b2, 0, none⟩), .int .i64 0] w fun e w' => ∃ c, e = .returned (.pointer (some ⟨c, 0, none⟩)) ∧ c < w'.heap.size ∧ Ext w w' ∧ Pnt w' c 0 (addX X Y Z x y 1) (addY X Y Z x y 1) (addZ X Y Z x y 1) := by
  obtain ⟨p0, p1, p2, p3, hqx, _, _⟩ := limbs (mont_bd' x).1 (mont_bd' x).2
  obtain ⟨q0, q1, q2, q3, hqy, _, _⟩ := limbs (mont_bd' y).1 (mont_bd' y).2
  have kp0 : w.cell? ⟨b1, 0, none⟩ = some (.int .u64 p0) := by have := hx 0 p0 (by rw [hqx]; rfl); simpa using this
  have kp1 : w.cell? ⟨b1, 1, none⟩ = some (.int .u64 p1) := by have := hx 1 p1 (by rw [hqx]; rfl); simpa using this
  have kp2 : w.cell? ⟨b1, 2, none⟩ = some (.int .u64 p2) := by have := hx 2 p2 (by rw [hqx]; rfl); simpa using this
  have kp3 : w.cell? ⟨b1, 3, none⟩ = some (.int .u64 p3) := by have := hx 3 p3 (by rw [hqx]; rfl); simpa using this
  have kq0 : w.cell? ⟨b2, 0, none⟩ = some (.int .u64 q0) := by have := hy 0 q0 (by rw [hqy]; rfl); simpa using this
  have kq1 : w.cell? ⟨b2, 1, none⟩ = some (.int .u64 q1) := by have := hy 1 q1 (by rw [hqy]; rfl); simpa using this
  have kq2 : w.cell? ⟨b2, 2, none⟩ = some (.int .u64 q2) := by have := hy 2 q2 (by rw [hqy]; rfl); simpa using this
  have kq3 : w.cell? ⟨b2, 3, none⟩ = some (.int .u64 q3) := by have := hy 3 q3 (by rw [hqy]; rfl); simpa using this
  have H := Lib.hid (And.intro hb (And.intro hb1 (And.intro hb2 (And.intro hp (And.intro hqx hqy)))))
  have HV := Lib.hid (And.intro kp0 (And.intro kp1 (And.intro kp2 (And.intro kp3 (And.intro kq0 (And.intro kq1 (And.intro kq2 kq3)))))))
  have hS0 : (fun w' : World => w'.cell? ⟨b1, 0, none⟩ = some (.int .u64 p0) ∧ w'.cell? ⟨b1, 1, none⟩ = some (.int .u64 p1) ∧ w'.cell? ⟨b1, 2, none⟩ = some (.int .u64 p2) ∧ w'.cell? ⟨b1, 3, none⟩ = some (.int .u64 p3) ∧ w'.cell? ⟨b2, 0, none⟩ = some (.int .u64 q0) ∧ w'.cell? ⟨b2, 1, none⟩ = some (.int .u64 q1) ∧ w'.cell? ⟨b2, 2, none⟩ = some (.int .u64 q2) ∧ w'.cell? ⟨b2, 3, none⟩ = some (.int .u64 q3)) w.drew := ⟨kp0, kp1, kp2, kp3, kq0, kq1, kq2, kq3⟩
  have hSA : ∀ ob, (fun w' : World => w'.cell? ⟨b1, 0, none⟩ = some (.int .u64 p0) ∧ w'.cell? ⟨b1, 1, none⟩ = some (.int .u64 p1) ∧ w'.cell? ⟨b1, 2, none⟩ = some (.int .u64 p2) ∧ w'.cell? ⟨b1, 3, none⟩ = some (.int .u64 p3) ∧ w'.cell? ⟨b2, 0, none⟩ = some (.int .u64 q0) ∧ w'.cell? ⟨b2, 1, none⟩ = some (.int .u64 q1) ∧ w'.cell? ⟨b2, 2, none⟩ = some (.int .u64 q2) ∧ w'.cell? ⟨b2, 3, none⟩ = some (.int .u64 q3)) ((w.alloc ob).drew) := fun ob => ⟨(cell_al1 hb1 ob 0).trans (HV.out.1), (cell_al1 hb1 ob 1).trans (HV.out.2.1), (cell_al1 hb1 ob 2).trans (HV.out.2.2.1), (cell_al1 hb1 ob 3).trans (HV.out.2.2.2.1), (cell_al1 hb2 ob 0).trans (HV.out.2.2.2.2.1), (cell_al1 hb2 ob 1).trans (HV.out.2.2.2.2.2.1), (cell_al1 hb2 ob 2).trans (HV.out.2.2.2.2.2.2.1), (cell_al1 hb2 ob 3).trans (HV.out.2.2.2.2.2.2.2)⟩
  clear hb hb1 hb2 hp hx hy hqx hqy
  go_enter Try.func76, Try.ntmps76
  go_wp2
  clear kp0 kp1 kp2 kp3 kq0 kq1 kq2 kq3
  go_region_held3 (fun w' => w'.cell? ⟨b1, 0, none⟩ = some (.int .u64 p0) ∧ w'.cell? ⟨b1, 1, none⟩ = some (.int .u64 p1) ∧ w'.cell? ⟨b1, 2, none⟩ = some (.int .u64 p2) ∧ w'.cell? ⟨b1, 3, none⟩ = some (.int .u64 p3) ∧ w'.cell? ⟨b2, 0, none⟩ = some (.int .u64 q0) ∧ w'.cell? ⟨b2, 1, none⟩ = some (.int .u64 q1) ∧ w'.cell? ⟨b2, 2, none⟩ = some (.int .u64 q2) ∧ w'.cell? ⟨b2, 3, none⟩ = some (.int .u64 q3)) (first | assumption | exact hS0 | exact hSA _ | exact hSB _ | go_keep) (first
    | (go_at_call 66; (with_reducible refine (NewPoint_any _).mono ?_); rintro e w1 ⟨rfl, hl1, hE1, hf1, _⟩; have hEx : Ext w w1 := (by first | exact Ext.of_drew hE1 | exact Ext.of_drew ((Ext.al _ _).trans hE1) | exact (Ext.al _ _).trans (Ext.of_drew hE1)); have hS1 : (fun w' : World => w'.cell? ⟨b1, 0, none⟩ = some (.int .u64 p0) ∧ w'.cell? ⟨b1, 1, none⟩ = some (.int .u64 p1) ∧ w'.cell? ⟨b1, 2, none⟩ = some (.int .u64 p2) ∧ w'.cell? ⟨b1, 3, none⟩ = some (.int .u64 p3) ∧ w'.cell? ⟨b2, 0, none⟩ = some (.int .u64 q0) ∧ w'.cell? ⟨b2, 1, none⟩ = some (.int .u64 q1) ∧ w'.cell? ⟨b2, 2, none⟩ = some (.int .u64 q2) ∧ w'.cell? ⟨b2, 3, none⟩ = some (.int .u64 q3)) w1 := ⟨cell_ext' hEx HV.out.1, cell_ext' hEx HV.out.2.1, cell_ext' hEx HV.out.2.2.1, cell_ext' hEx HV.out.2.2.2.1, cell_ext' hEx HV.out.2.2.2.2.1, cell_ext' hEx HV.out.2.2.2.2.2.1, cell_ext' hEx HV.out.2.2.2.2.2.2.1, cell_ext' hEx HV.out.2.2.2.2.2.2.2⟩; have hSB : ∀ ob, (fun w' : World => w'.cell? ⟨b1, 0, none⟩ = some (.int .u64 p0) ∧ w'.cell? ⟨b1, 1, none⟩ = some (.int .u64 p1) ∧ w'.cell? ⟨b1, 2, none⟩ = some (.int .u64 p2) ∧ w'.cell? ⟨b1, 3, none⟩ = some (.int .u64 p3) ∧ w'.cell? ⟨b2, 0, none⟩ = some (.int .u64 q0) ∧ w'.cell? ⟨b2, 1, none⟩ = some (.int .u64 q1) ∧ w'.cell? ⟨b2, 2, none⟩ = some (.int .u64 q2) ∧ w'.cell? ⟨b2, 3, none⟩ = some (.int .u64 q3)) (w1.alloc ob) := fun ob => ⟨(cell_al1 (hEx.lt H.out.2.1) ob 0).trans (cell_ext' hEx HV.out.1), (cell_al1 (hEx.lt H.out.2.1) ob 1).trans (cell_ext' hEx HV.out.2.1), (cell_al1 (hEx.lt H.out.2.1) ob 2).trans (cell_ext' hEx HV.out.2.2.1), (cell_al1 (hEx.lt H.out.2.1) ob 3).trans (cell_ext' hEx HV.out.2.2.2.1), (cell_al1 (hEx.lt H.out.2.2.1) ob 0).trans (cell_ext' hEx HV.out.2.2.2.2.1), (cell_al1 (hEx.lt H.out.2.2.1) ob 1).trans (cell_ext' hEx HV.out.2.2.2.2.2.1), (cell_al1 (hEx.lt H.out.2.2.1) ob 2).trans (cell_ext' hEx HV.out.2.2.2.2.2.2.1), (cell_al1 (hEx.lt H.out.2.2.1) ob 3).trans (cell_ext' hEx HV.out.2.2.2.2.2.2.2)⟩)
    | (go_at_call 106; first
      | (have hla : w.heap.size < w1.heap.size := hl1; have hfa : Free w1 w.heap.size 0 12 := hf1; (with_reducible refine (AddAffine0_any w.heap.size 0 b 0 w1.heap.size 0 X Y Z x y (w1.alloc (.cells #[.int .u64 p0, .int .u64 p1, .int .u64 p2, .int .u64 p3, .int .u64 q0, .int .u64 q1, .int .u64 q2, .int .u64 q3] 146)) (size_al hla _) (size_al (hEx.lt H.out.1) _) (by simp [size_alloc]) (hfa.alloc hla _) ((hEx.trans (Ext.al _ _)).pnt H.out.1 H.out.2.2.2.1) (elt_lit _ _ H.out.2.2.2.2.1 H.out.2.2.2.2.2 (heap_at w1 _ _ rfl)).1 (elt_lit _ _ H.out.2.2.2.2.1 H.out.2.2.2.2.2 (heap_at w1 _ _ rfl)).2 (apart_ne (by have := H.out.1; omega)) (apart_ne (Nat.ne_of_gt hla))).mono ?_); rintro e w2 ⟨rfl, hT, hP⟩; have H2 := Lib.hid (And.intro (hT.lt (size_al hla _)) (And.intro (Turned.ext_of_new (hEx.trans (Ext.al _ _)) hT (Nat.le_refl _)) hP)); clear hT hP; have hS2 : (fun w' : World => w'.cell? ⟨b1, 0, none⟩ = some (.int .u64 p0) ∧ w'.cell? ⟨b1, 1, none⟩ = some (.int .u64 p1) ∧ w'.cell? ⟨b1, 2, none⟩ = some (.int .u64 p2) ∧ w'.cell? ⟨b1, 3, none⟩ = some (.int .u64 p3) ∧ w'.cell? ⟨b2, 0, none⟩ = some (.int .u64 q0) ∧ w'.cell? ⟨b2, 1, none⟩ = some (.int .u64 q1) ∧ w'.cell? ⟨b2, 2, none⟩ = some (.int .u64 q2) ∧ w'.cell? ⟨b2, 3, none⟩ = some (.int .u64 q3)) w2 := ⟨cell_ext' H2.out.2.1 HV.out.1, cell_ext' H2.out.2.1 HV.out.2.1, cell_ext' H2.out.2.1 HV.out.2.2.1, cell_ext' H2.out.2.1 HV.out.2.2.2.1, cell_ext' H2.out.2.1 HV.out.2.2.2.2.1, cell_ext' H2.out.2.1 HV.out.2.2.2.2.2.1, cell_ext' H2.out.2.1 HV.out.2.2.2.2.2.2.1, cell_ext' H2.out.2.1 HV.out.2.2.2.2.2.2.2⟩)
      | (have hlb : w.heap.size + 1 < w1.heap.size := (by have := hl1; simpa [size_alloc] using this); have hfb : Free w1 (w.heap.size + 1) 0 12 := (by have := hf1; simpa [size_alloc] using this); have he2 : Elt (w.alloc (.cells #[.int .u64 p0, .int .u64 p1, .int .u64 p2, .int .u64 p3, .int .u64 q0, .int .u64 q1, .int .u64 q2, .int .u64 q3] 146)).drew w.heap.size 0 x ∧ Elt (w.alloc (.cells #[.int .u64 p0, .int .u64 p1, .int .u64 p2, .int .u64 p3, .int .u64 q0, .int .u64 q1, .int .u64 q2, .int .u64 q3] 146)).drew w.heap.size 4 y := elt_lit _ _ H.out.2.2.2.2.1 H.out.2.2.2.2.2 (heap_at w (.cells #[.int .u64 p0, .int .u64 p1, .int .u64 p2, .int .u64 p3, .int .u64 q0, .int .u64 q1, .int .u64 q2, .int .u64 q3] 146) w.heap.size rfl); have hn2 : w.heap.size < (w.alloc (.cells #[.int .u64 p0, .int .u64 p1, .int .u64 p2, .int .u64 p3, .int .u64 q0, .int .u64 q1, .int .u64 q2, .int .u64 q3] 146)).drew.heap.size := (by show w.heap.size < (w.alloc (.cells #[.int .u64 p0, .int .u64 p1, .int .u64 p2, .int .u64 p3, .int .u64 q0, .int .u64 q1, .int .u64 q2, .int .u64 q3] 146)).heap.size; simp [size_alloc]); ((with_reducible refine (AddAffine0_any (w.heap.size + 1) 0 b 0 w.heap.size 0 X Y Z x y w1 hlb (hEx.lt H.out.1) (Nat.lt_of_succ_lt hlb) hfb (hEx.pnt H.out.1 H.out.2.2.2.1) (hE1.elt hn2 he2.1) (hE1.elt hn2 he2.2) (apart_ne (by have := H.out.1; omega)) (apart_ne (by omega))).mono ?_); rintro e w2 ⟨rfl, hT, hP⟩; have H2 := Lib.hid (And.intro (hT.lt hlb) (And.intro (Turned.ext_of_new hEx hT (Nat.le_succ _)) hP)); clear hT hP; have hS2 : (fun w' : World => w'.cell? ⟨b1, 0, none⟩ = some (.int .u64 p0) ∧ w'.cell? ⟨b1, 1, none⟩ = some (.int .u64 p1) ∧ w'.cell? ⟨b1, 2, none⟩ = some (.int .u64 p2) ∧ w'.cell? ⟨b1, 3, none⟩ = some (.int .u64 p3) ∧ w'.cell? ⟨b2, 0, none⟩ = some (.int .u64 q0) ∧ w'.cell? ⟨b2, 1, none⟩ = some (.int .u64 q1) ∧ w'.cell? ⟨b2, 2, none⟩ = some (.int .u64 q2) ∧ w'.cell? ⟨b2, 3, none⟩ = some (.int .u64 q3)) w2 := ⟨cell_ext' H2.out.2.1 HV.out.1, cell_ext' H2.out.2.1 HV.out.2.1, cell_ext' H2.out.2.1 HV.out.2.2.1, cell_ext' H2.out.2.1 HV.out.2.2.2.1, cell_ext' H2.out.2.1 HV.out.2.2.2.2.1, cell_ext' H2.out.2.1 HV.out.2.2.2.2.2.1, cell_ext' H2.out.2.1 HV.out.2.2.2.2.2.2.1, cell_ext' H2.out.2.1 HV.out.2.2.2.2.2.2.2⟩))
      | fail))
  all_goals go_wp2
  all_goals first
    | exact bodyPost_ret (v := .pointer (some ⟨w.heap.size, 0, none⟩)) (by simp [results, Try.results76, go_sem]) rfl ⟨_, rfl, H2.out.1, H2.out.2.1, H2.out.2.2⟩
    | exact bodyPost_ret (v := .pointer (some ⟨w.heap.size + 1, 0, none⟩)) (by simp [results, Try.results76, go_sem]) rfl ⟨_, rfl, H2.out.1, H2.out.2.1, H2.out.2.2⟩
set_option maxHeartbeats 1000000 in
set_option maxRecDepth 100000 in
theorem ZZAff1_any (b b1 b2 : Nat) (X Y Z x y : Fp) (w : World) (hb : b < w.heap.size) (hb1 : b1 < w.heap.size) (hb2 : b2 < w.heap.size) (hp : Pnt w b 0 X Y Z) (hx : Elt w b1 0 x) (hy : Elt w b2 0 y) :
    Calls Try.prog 76 #[.pointer (some ⟨b, 0, none⟩), .pointer (some ⟨b1, 0, none⟩), .pointer (some ⟨b2, 0, none⟩), .int .i64 1] w fun e w' => ∃ c, e = .returned (.pointer (some ⟨c, 0, none⟩)) ∧ c < w'.heap.size ∧ Ext w w' ∧ Pnt w' c 0 X Y Z := by
  obtain ⟨p0, p1, p2, p3, hqx, _, _⟩ := limbs (mont_bd' x).1 (mont_bd' x).2
  obtain ⟨q0, q1, q2, q3, hqy, _, _⟩ := limbs (mont_bd' y).1 (mont_bd' y).2
  have kp0 : w.cell? ⟨b1, 0, none⟩ = some (.int .u64 p0) := by have := hx 0 p0 (by rw [hqx]; rfl); simpa using this
  have kp1 : w.cell? ⟨b1, 1, none⟩ = some (.int .u64 p1) := by have := hx 1 p1 (by rw [hqx]; rfl); simpa using this
  have kp2 : w.cell? ⟨b1, 2, none⟩ = some (.int .u64 p2) := by have := hx 2 p2 (by rw [hqx]; rfl); simpa using this
  have kp3 : w.cell? ⟨b1, 3, none⟩ = some (.int .u64 p3) := by have := hx 3 p3 (by rw [hqx]; rfl); simpa using this
  have kq0 : w.cell? ⟨b2, 0, none⟩ = some (.int .u64 q0) := by have := hy 0 q0 (by rw [hqy]; rfl); simpa using this
  have kq1 : w.cell? ⟨b2, 1, none⟩ = some (.int .u64 q1) := by have := hy 1 q1 (by rw [hqy]; rfl); simpa using this
  have kq2 : w.cell? ⟨b2, 2, none⟩ = some (.int .u64 q2) := by have := hy 2 q2 (by rw [hqy]; rfl); simpa using this
  have kq3 : w.cell? ⟨b2, 3, none⟩ = some (.int .u64 q3) := by have := hy 3 q3 (by rw [hqy]; rfl); simpa using this
  have H := Lib.hid (And.intro hb (And.intro hb1 (And.intro hb2 (And.intro hp (And.intro hqx hqy)))))
  have HV := Lib.hid (And.intro kp0 (And.intro kp1 (And.intro kp2 (And.intro kp3 (And.intro kq0 (And.intro kq1 (And.intro kq2 kq3)))))))
  have hS0 : (fun w' : World => w'.cell? ⟨b1, 0, none⟩ = some (.int .u64 p0) ∧ w'.cell? ⟨b1, 1, none⟩ = some (.int .u64 p1) ∧ w'.cell? ⟨b1, 2, none⟩ = some (.int .u64 p2) ∧ w'.cell? ⟨b1, 3, none⟩ = some (.int .u64 p3) ∧ w'.cell? ⟨b2, 0, none⟩ = some (.int .u64 q0) ∧ w'.cell? ⟨b2, 1, none⟩ = some (.int .u64 q1) ∧ w'.cell? ⟨b2, 2, none⟩ = some (.int .u64 q2) ∧ w'.cell? ⟨b2, 3, none⟩ = some (.int .u64 q3)) w.drew := ⟨kp0, kp1, kp2, kp3, kq0, kq1, kq2, kq3⟩
  have hSA : ∀ ob, (fun w' : World => w'.cell? ⟨b1, 0, none⟩ = some (.int .u64 p0) ∧ w'.cell? ⟨b1, 1, none⟩ = some (.int .u64 p1) ∧ w'.cell? ⟨b1, 2, none⟩ = some (.int .u64 p2) ∧ w'.cell? ⟨b1, 3, none⟩ = some (.int .u64 p3) ∧ w'.cell? ⟨b2, 0, none⟩ = some (.int .u64 q0) ∧ w'.cell? ⟨b2, 1, none⟩ = some (.int .u64 q1) ∧ w'.cell? ⟨b2, 2, none⟩ = some (.int .u64 q2) ∧ w'.cell? ⟨b2, 3, none⟩ = some (.int .u64 q3)) ((w.alloc ob).drew) := fun ob => ⟨(cell_al1 hb1 ob 0).trans (HV.out.1), (cell_al1 hb1 ob 1).trans (HV.out.2.1), (cell_al1 hb1 ob 2).trans (HV.out.2.2.1), (cell_al1 hb1 ob 3).trans (HV.out.2.2.2.1), (cell_al1 hb2 ob 0).trans (HV.out.2.2.2.2.1), (cell_al1 hb2 ob 1).trans (HV.out.2.2.2.2.2.1), (cell_al1 hb2 ob 2).trans (HV.out.2.2.2.2.2.2.1), (cell_al1 hb2 ob 3).trans (HV.out.2.2.2.2.2.2.2)⟩
  clear hb hb1 hb2 hp hx hy hqx hqy
  go_enter Try.func76, Try.ntmps76
  go_wp2
  clear kp0 kp1 kp2 kp3 kq0 kq1 kq2 kq3
  go_region_held3 (fun w' => w'.cell? ⟨b1, 0, none⟩ = some (.int .u64 p0) ∧ w'.cell? ⟨b1, 1, none⟩ = some (.int .u64 p1) ∧ w'.cell? ⟨b1, 2, none⟩ = some (.int .u64 p2) ∧ w'.cell? ⟨b1, 3, none⟩ = some (.int .u64 p3) ∧ w'.cell? ⟨b2, 0, none⟩ = some (.int .u64 q0) ∧ w'.cell? ⟨b2, 1, none⟩ = some (.int .u64 q1) ∧ w'.cell? ⟨b2, 2, none⟩ = some (.int .u64 q2) ∧ w'.cell? ⟨b2, 3, none⟩ = some (.int .u64 q3)) (first | assumption | exact hS0 | exact hSA _ | exact hSB _ | go_keep) (first
    | (go_at_call 66; (with_reducible refine (NewPoint_any _).mono ?_); rintro e w1 ⟨rfl, hl1, hE1, hf1, _⟩; have hEx : Ext w w1 := (by first | exact Ext.of_drew hE1 | exact Ext.of_drew ((Ext.al _ _).trans hE1) | exact (Ext.al _ _).trans (Ext.of_drew hE1)); have hS1 : (fun w' : World => w'.cell? ⟨b1, 0, none⟩ = some (.int .u64 p0) ∧ w'.cell? ⟨b1, 1, none⟩ = some (.int .u64 p1) ∧ w'.cell? ⟨b1, 2, none⟩ = some (.int .u64 p2) ∧ w'.cell? ⟨b1, 3, none⟩ = some (.int .u64 p3) ∧ w'.cell? ⟨b2, 0, none⟩ = some (.int .u64 q0) ∧ w'.cell? ⟨b2, 1, none⟩ = some (.int .u64 q1) ∧ w'.cell? ⟨b2, 2, none⟩ = some (.int .u64 q2) ∧ w'.cell? ⟨b2, 3, none⟩ = some (.int .u64 q3)) w1 := ⟨cell_ext' hEx HV.out.1, cell_ext' hEx HV.out.2.1, cell_ext' hEx HV.out.2.2.1, cell_ext' hEx HV.out.2.2.2.1, cell_ext' hEx HV.out.2.2.2.2.1, cell_ext' hEx HV.out.2.2.2.2.2.1, cell_ext' hEx HV.out.2.2.2.2.2.2.1, cell_ext' hEx HV.out.2.2.2.2.2.2.2⟩; have hSB : ∀ ob, (fun w' : World => w'.cell? ⟨b1, 0, none⟩ = some (.int .u64 p0) ∧ w'.cell? ⟨b1, 1, none⟩ = some (.int .u64 p1) ∧ w'.cell? ⟨b1, 2, none⟩ = some (.int .u64 p2) ∧ w'.cell? ⟨b1, 3, none⟩ = some (.int .u64 p3) ∧ w'.cell? ⟨b2, 0, none⟩ = some (.int .u64 q0) ∧ w'.cell? ⟨b2, 1, none⟩ = some (.int .u64 q1) ∧ w'.cell? ⟨b2, 2, none⟩ = some (.int .u64 q2) ∧ w'.cell? ⟨b2, 3, none⟩ = some (.int .u64 q3)) (w1.alloc ob) := fun ob => ⟨(cell_al1 (hEx.lt H.out.2.1) ob 0).trans (cell_ext' hEx HV.out.1), (cell_al1 (hEx.lt H.out.2.1) ob 1).trans (cell_ext' hEx HV.out.2.1), (cell_al1 (hEx.lt H.out.2.1) ob 2).trans (cell_ext' hEx HV.out.2.2.1), (cell_al1 (hEx.lt H.out.2.1) ob 3).trans (cell_ext' hEx HV.out.2.2.2.1), (cell_al1 (hEx.lt H.out.2.2.1) ob 0).trans (cell_ext' hEx HV.out.2.2.2.2.1), (cell_al1 (hEx.lt H.out.2.2.1) ob 1).trans (cell_ext' hEx HV.out.2.2.2.2.2.1), (cell_al1 (hEx.lt H.out.2.2.1) ob 2).trans (cell_ext' hEx HV.out.2.2.2.2.2.2.1), (cell_al1 (hEx.lt H.out.2.2.1) ob 3).trans (cell_ext' hEx HV.out.2.2.2.2.2.2.2)⟩)
    | (go_at_call 106; first
      | (have hla : w.heap.size < w1.heap.size := hl1; have hfa : Free w1 w.heap.size 0 12 := hf1; (with_reducible refine (AddAffine1_any w.heap.size 0 b 0 w1.heap.size 0 X Y Z x y (w1.alloc (.cells #[.int .u64 p0, .int .u64 p1, .int .u64 p2, .int .u64 p3, .int .u64 q0, .int .u64 q1, .int .u64 q2, .int .u64 q3] 146)) (size_al hla _) (size_al (hEx.lt H.out.1) _) (by simp [size_alloc]) (hfa.alloc hla _) ((hEx.trans (Ext.al _ _)).pnt H.out.1 H.out.2.2.2.1) (elt_lit _ _ H.out.2.2.2.2.1 H.out.2.2.2.2.2 (heap_at w1 _ _ rfl)).1 (elt_lit _ _ H.out.2.2.2.2.1 H.out.2.2.2.2.2 (heap_at w1 _ _ rfl)).2 (apart_ne (by have := H.out.1; omega)) (apart_ne (Nat.ne_of_gt hla))).mono ?_); rintro e w2 ⟨rfl, hT, hP⟩; have H2 := Lib.hid (And.intro (hT.lt (size_al hla _)) (And.intro (Turned.ext_of_new (hEx.trans (Ext.al _ _)) hT (Nat.le_refl _)) hP)); clear hT hP; have hS2 : (fun w' : World => w'.cell? ⟨b1, 0, none⟩ = some (.int .u64 p0) ∧ w'.cell? ⟨b1, 1, none⟩ = some (.int .u64 p1) ∧ w'.cell? ⟨b1, 2, none⟩ = some (.int .u64 p2) ∧ w'.cell? ⟨b1, 3, none⟩ = some (.int .u64 p3) ∧ w'.cell? ⟨b2, 0, none⟩ = some (.int .u64 q0) ∧ w'.cell? ⟨b2, 1, none⟩ = some (.int .u64 q1) ∧ w'.cell? ⟨b2, 2, none⟩ = some (.int .u64 q2) ∧ w'.cell? ⟨b2, 3, none⟩ = some (.int .u64 q3)) w2 := ⟨cell_ext' H2.out.2.1 HV.out.1, cell_ext' H2.out.2.1 HV.out.2.1, cell_ext' H2.out.2.1 HV.out.2.2.1, cell_ext' H2.out.2.1 HV.out.2.2.2.1, cell_ext' H2.out.2.1 HV.out.2.2.2.2.1, cell_ext' H2.out.2.1 HV.out.2.2.2.2.2.1, cell_ext' H2.out.2.1 HV.out.2.2.2.2.2.2.1, cell_ext' H2.out.2.1 HV.out.2.2.2.2.2.2.2⟩)
      | (have hlb : w.heap.size + 1 < w1.heap.size := (by have := hl1; simpa [size_alloc] using this); have hfb : Free w1 (w.heap.size + 1) 0 12 := (by have := hf1; simpa [size_alloc] using this); have he2 : Elt (w.alloc (.cells #[.int .u64 p0, .int .u64 p1, .int .u64 p2, .int .u64 p3, .int .u64 q0, .int .u64 q1, .int .u64 q2, .int .u64 q3] 146)).drew w.heap.size 0 x ∧ Elt (w.alloc (.cells #[.int .u64 p0, .int .u64 p1, .int .u64 p2, .int .u64 p3, .int .u64 q0, .int .u64 q1, .int .u64 q2, .int .u64 q3] 146)).drew w.heap.size 4 y := elt_lit _ _ H.out.2.2.2.2.1 H.out.2.2.2.2.2 (heap_at w (.cells #[.int .u64 p0, .int .u64 p1, .int .u64 p2, .int .u64 p3, .int .u64 q0, .int .u64 q1, .int .u64 q2, .int .u64 q3] 146) w.heap.size rfl); have hn2 : w.heap.size < (w.alloc (.cells #[.int .u64 p0, .int .u64 p1, .int .u64 p2, .int .u64 p3, .int .u64 q0, .int .u64 q1, .int .u64 q2, .int .u64 q3] 146)).drew.heap.size := (by show w.heap.size < (w.alloc (.cells #[.int .u64 p0, .int .u64 p1, .int .u64 p2, .int .u64 p3, .int .u64 q0, .int .u64 q1, .int .u64 q2, .int .u64 q3] 146)).heap.size; simp [size_alloc]); ((with_reducible refine (AddAffine1_any (w.heap.size + 1) 0 b 0 w.heap.size 0 X Y Z x y w1 hlb (hEx.lt H.out.1) (Nat.lt_of_succ_lt hlb) hfb (hEx.pnt H.out.1 H.out.2.2.2.1) (hE1.elt hn2 he2.1) (hE1.elt hn2 he2.2) (apart_ne (by have := H.out.1; omega)) (apart_ne (by omega))).mono ?_); rintro e w2 ⟨rfl, hT, hP⟩; have H2 := Lib.hid (And.intro (hT.lt hlb) (And.intro (Turned.ext_of_new hEx hT (Nat.le_succ _)) hP)); clear hT hP; have hS2 : (fun w' : World => w'.cell? ⟨b1, 0, none⟩ = some (.int .u64 p0) ∧ w'.cell? ⟨b1, 1, none⟩ = some (.int .u64 p1) ∧ w'.cell? ⟨b1, 2, none⟩ = some (.int .u64 p2) ∧ w'.cell? ⟨b1, 3, none⟩ = some (.int .u64 p3) ∧ w'.cell? ⟨b2, 0, none⟩ = some (.int .u64 q0) ∧ w'.cell? ⟨b2, 1, none⟩ = some (.int .u64 q1) ∧ w'.cell? ⟨b2, 2, none⟩ = some (.int .u64 q2) ∧ w'.cell? ⟨b2, 3, none⟩ = some (.int .u64 q3)) w2 := ⟨cell_ext' H2.out.2.1 HV.out.1, cell_ext' H2.out.2.1 HV.out.2.1, cell_ext' H2.out.2.1 HV.out.2.2.1, cell_ext' H2.out.2.1 HV.out.2.2.2.1, cell_ext' H2.out.2.1 HV.out.2.2.2.2.1, cell_ext' H2.out.2.1 HV.out.2.2.2.2.2.1, cell_ext' H2.out.2.1 HV.out.2.2.2.2.2.2.1, cell_ext' H2.out.2.1 HV.out.2.2.2.2.2.2.2⟩))
      | fail))
  all_goals go_wp2
  all_goals first
    | exact bodyPost_ret (v := .pointer (some ⟨w.heap.size, 0, none⟩)) (by simp [results, Try.results76, go_sem]) rfl ⟨_, rfl, H2.out.1, H2.out.2.1, H2.out.2.2⟩
    | exact bodyPost_ret (v := .pointer (some ⟨w.heap.size + 1, 0, none⟩)) (by simp [results, Try.results76, go_sem]) rfl ⟨_, rfl, H2.out.1, H2.out.2.1, H2.out.2.2⟩
end Go.Proofs.Ytmepgkcijeobkaa
