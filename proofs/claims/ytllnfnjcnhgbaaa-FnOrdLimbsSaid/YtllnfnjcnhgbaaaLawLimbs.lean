/-
  What FnOrdLimbs says: for every 32 bytes, the four words are those of the number reduced modulo the order.
  Conditions: none.
-/
import Derived.Test.YtllnfnjcnhgbaaaRows
import Derived.Test.YtllnfnjcnhgbaaaOrdD
import Derived.Test.YtllnfnjcnhgbaaaArrEq
import Derived.WalkKit
import Derived.WalkSpells
import Derived.Outline
import Derived.ProofKit
import Derived.OpenShut
namespace Go.Proofs.Ytllnfnjcnhgbaaa.fnOrdLimbs
open Go.ChangeShapes Go.WideShapes Go.ChangeAt Go.RowKit
set_option linter.unusedSimpArgs false
set_option linter.unusedVariables false

set_option maxHeartbeats 4000000 in
set_option maxRecDepth 100000 in
theorem walk (l : List Int) (hl : l.length = 32) (hw : ∀ x ∈ l, (Lit.int .u8 x).wf = true) (w : World) :
    Calls Try.prog 5 #[.agg (l.map (Value.int .u8)).toArray] w fun e w' => e = .returned (.bool true) ∧ Below w.heap.size w w' := by
  have hb : ∀ x ∈ l, 0 ≤ x ∧ x < 256 := fun x hx => by
    have := bounds_u8 (hw x hx)
    omega
  clear hw
  have hbe := be_bd l hl hb
  match l, hl, hb, hbe with
  | [x0, x1, x2, x3, x4, x5, x6, x7, x8, x9, x10, x11, x12, x13, x14, x15, x16, x17, x18, x19, x20, x21, x22, x23, x24, x25, x26, x27, x28, x29, x30, x31], _, hb, hbe =>
    have HB := Lib.hid hb
    have HBE := Lib.hid hbe
    clear hb hbe
    have hlt : ∀ j, 0 ≤ ([x0, x1, x2, x3, x4, x5, x6, x7, x8, x9, x10, x11, x12, x13, x14, x15, x16, x17, x18, x19, x20, x21, x22, x23, x24, x25, x26, x27, x28, x29, x30, x31] : List Int).getD j 0 ∧ ([x0, x1, x2, x3, x4, x5, x6, x7, x8, x9, x10, x11, x12, x13, x14, x15, x16, x17, x18, x19, x20, x21, x22, x23, x24, x25, x26, x27, x28, x29, x30, x31] : List Int).getD j 0 < 256 := fun j => by
      by_cases h : j < 32
      · rw [List.getD_eq_getElem?_getD, List.getElem?_eq_getElem (by simpa using h)]; exact HB.out _ (List.getElem_mem _)
      · rw [List.getD_eq_getElem?_getD, List.getElem?_eq_none (by simp; omega)]; decide
    have HLT := Lib.hid hlt
    clear hlt
    obtain ⟨d0, d1, d2, d3, hd, he, _⟩ := L4_open (ordRest (be [x0, x1, x2, x3, x4, x5, x6, x7, x8, x9, x10, x11, x12, x13, x14, x15, x16, x17, x18, x19, x20, x21, x22, x23, x24, x25, x26, x27, x28, x29, x30, x31]))
    have HE := Lib.hid he
    clear hd he
    have hcl : ∀ j, j < 32 → (#[.int .u8 x0, .int .u8 x1, .int .u8 x2, .int .u8 x3, .int .u8 x4, .int .u8 x5, .int .u8 x6, .int .u8 x7, .int .u8 x8, .int .u8 x9, .int .u8 x10, .int .u8 x11, .int .u8 x12, .int .u8 x13, .int .u8 x14, .int .u8 x15, .int .u8 x16, .int .u8 x17, .int .u8 x18, .int .u8 x19, .int .u8 x20, .int .u8 x21, .int .u8 x22, .int .u8 x23, .int .u8 x24, .int .u8 x25, .int .u8 x26, .int .u8 x27, .int .u8 x28, .int .u8 x29, .int .u8 x30, .int .u8 x31] : Array Value)[j]? = some (.int .u8 (([x0, x1, x2, x3, x4, x5, x6, x7, x8, x9, x10, x11, x12, x13, x14, x15, x16, x17, x18, x19, x20, x21, x22, x23, x24, x25, x26, x27, x28, x29, x30, x31] : List Int).getD j 0)) := fun j hj => by
      rcases (show j = 0 ∨ j = 1 ∨ j = 2 ∨ j = 3 ∨ j = 4 ∨ j = 5 ∨ j = 6 ∨ j = 7 ∨ j = 8 ∨ j = 9 ∨ j = 10 ∨ j = 11 ∨ j = 12 ∨ j = 13 ∨ j = 14 ∨ j = 15 ∨ j = 16 ∨ j = 17 ∨ j = 18 ∨ j = 19 ∨ j = 20 ∨ j = 21 ∨ j = 22 ∨ j = 23 ∨ j = 24 ∨ j = 25 ∨ j = 26 ∨ j = 27 ∨ j = 28 ∨ j = 29 ∨ j = 30 ∨ j = 31 by omega) with rfl | rfl | rfl | rfl | rfl | rfl | rfl | rfl | rfl | rfl | rfl | rfl | rfl | rfl | rfl | rfl | rfl | rfl | rfl | rfl | rfl | rfl | rfl | rfl | rfl | rfl | rfl | rfl | rfl | rfl | rfl | rfl <;> rfl
    have HCL := Lib.hid hcl
    clear hcl
    show Calls Try.prog 5 #[.agg #[.int .u8 x0, .int .u8 x1, .int .u8 x2, .int .u8 x3, .int .u8 x4, .int .u8 x5, .int .u8 x6, .int .u8 x7, .int .u8 x8, .int .u8 x9, .int .u8 x10, .int .u8 x11, .int .u8 x12, .int .u8 x13, .int .u8 x14, .int .u8 x15, .int .u8 x16, .int .u8 x17, .int .u8 x18, .int .u8 x19, .int .u8 x20, .int .u8 x21, .int .u8 x22, .int .u8 x23, .int .u8 x24, .int .u8 x25, .int .u8 x26, .int .u8 x27, .int .u8 x28, .int .u8 x29, .int .u8 x30, .int .u8 x31]] w _
    go_enter Try.func5, Try.ntmps5
    go_wp2_with (go_at_call 11; (with_reducible refine (OrdLimbs_impl w.heap.size 0 32 (fun j => ([x0, x1, x2, x3, x4, x5, x6, x7, x8, x9, x10, x11, x12, x13, x14, x15, x16, x17, x18, x19, x20, x21, x22, x23, x24, x25, x26, x27, x28, x29, x30, x31] : List Int).getD j 0) HLT.out _ (by simp) ?_).mono ?_); (· intro j hj; rw [Nat.zero_add, World.cell?_alloc_new]; exact HCL.out j hj); rintro e w1 ⟨rfl, g1, rfl⟩; rw [show (List.range 32).map (fun j => ([x0, x1, x2, x3, x4, x5, x6, x7, x8, x9, x10, x11, x12, x13, x14, x15, x16, x17, x18, x19, x20, x21, x22, x23, x24, x25, x26, x27, x28, x29, x30, x31] : List Int).getD j 0) = [x0, x1, x2, x3, x4, x5, x6, x7, x8, x9, x10, x11, x12, x13, x14, x15, x16, x17, x18, x19, x20, x21, x22, x23, x24, x25, x26, x27, x28, x29, x30, x31] from rfl, HE.out])
    have hrow : ∀ (W : World) (g : Gr) (o : Obj) (g2 : Gr), (ext ((ext (w.alloc (.cells #[.int .u8 x0, .int .u8 x1, .int .u8 x2, .int .u8 x3, .int .u8 x4, .int .u8 x5, .int .u8 x6, .int .u8 x7, .int .u8 x8, .int .u8 x9, .int .u8 x10, .int .u8 x11, .int .u8 x12, .int .u8 x13, .int .u8 x14, .int .u8 x15, .int .u8 x16, .int .u8 x17, .int .u8 x18, .int .u8 x19, .int .u8 x20, .int .u8 x21, .int .u8 x22, .int .u8 x23, .int .u8 x24, .int .u8 x25, .int .u8 x26, .int .u8 x27, .int .u8 x28, .int .u8 x29, .int .u8 x30, .int .u8 x31] 31)) g).alloc o) g2).heap[w.heap.size]? = some (.cells #[.int .u8 x0, .int .u8 x1, .int .u8 x2, .int .u8 x3, .int .u8 x4, .int .u8 x5, .int .u8 x6, .int .u8 x7, .int .u8 x8, .int .u8 x9, .int .u8 x10, .int .u8 x11, .int .u8 x12, .int .u8 x13, .int .u8 x14, .int .u8 x15, .int .u8 x16, .int .u8 x17, .int .u8 x18, .int .u8 x19, .int .u8 x20, .int .u8 x21, .int .u8 x22, .int .u8 x23, .int .u8 x24, .int .u8 x25, .int .u8 x26, .int .u8 x27, .int .u8 x28, .int .u8 x29, .int .u8 x30, .int .u8 x31] 31 (0, 0)) := by
      intro W g o g2
      rw [heap_ext _ _ _ (by simp <;> omega), heap_past _ _ _ (by simp <;> omega), heap_ext _ _ _ (by simp <;> omega), heap_at _ _ _ rfl]
    have HROW := Lib.hid hrow
    clear hrow
    have tl : ∀ w, Calls Try.prog 12 #[E8 (ordRest (be [x0, x1, x2, x3, x4, x5, x6, x7, x8, x9, x10, x11, x12, x13, x14, x15, x16, x17, x18, x19, x20, x21, x22, x23, x24, x25, x26, x27, x28, x29, x30, x31]))] w fun e w' => e = .returned (.agg #[.int .u64 d0, .int .u64 d1, .int .u64 d2, .int .u64 d3]) ∧ Ext w w' := fun w => by
      have h := ToLimbs_any (ordRest (be [x0, x1, x2, x3, x4, x5, x6, x7, x8, x9, x10, x11, x12, x13, x14, x15, x16, x17, x18, x19, x20, x21, x22, x23, x24, x25, x26, x27, x28, x29, x30, x31])) (ordRest_bd _ HBE.out.1 HBE.out.2).1 (ordRest_bd _ HBE.out.1 HBE.out.2).2 w
      rw [HE.out] at h
      exact h
    have TL := Lib.hid tl
    clear tl
    have heq : ∀ w, (binOp .eql 35 (.agg #[.int .u64 d0, .int .u64 d1, .int .u64 d2, .int .u64 d3]) (.agg #[.int .u64 d0, .int .u64 d1, .int .u64 d2, .int .u64 d3])).run Try.prog w = .ok (.bool true) w := fun w => by
      have h := run_eql_ints (P := Try.prog) w 35 22 4 .u64 Try.underlying35 Try.underlying22 (fun w => by simp [go_sem]) [d0, d1, d2, d3] [d0, d1, d2, d3] rfl rfl
      rw [decide_eq_true rfl] at h
      exact h
    refine wp_grow (by kernel_rfl) (by kernel_rfl) ?_
    repeat (first | go_big_quiet_skip | (go_big_quiet_want; refine quiet_load_row 31 _ rfl w.heap.size rfl 31 _ (0, 0) _ (fun w' hw' => by obtain ⟨g2, rfl⟩ := hw'; exact HROW.out w _ _ _) Try.underlying31 rfl (by kernel_rfl) ?_; go_simp; go_big_quiet_on) | (go_big_quiet_want; go_big_quiet_op; first | go_big_quiet_on | go_big_quiet_call (first | (go_at_call 14; exact calls_grow (Of_any [x0, x1, x2, x3, x4, x5, x6, x7, x8, x9, x10, x11, x12, x13, x14, x15, x16, x17, x18, x19, x20, x21, x22, x23, x24, x25, x26, x27, x28, x29, x30, x31] rfl HB.out _)) | (go_at_call 13; exact calls_grow (OrdRest_any (be [x0, x1, x2, x3, x4, x5, x6, x7, x8, x9, x10, x11, x12, x13, x14, x15, x16, x17, x18, x19, x20, x21, x22, x23, x24, x25, x26, x27, x28, x29, x30, x31]) HBE.out.1 HBE.out.2 _)) | (go_at_call 12; exact calls_grow (TL.out _)))))
    refine wpQuiet_nil ?_
    intro _ hw'
    obtain ⟨g', hw''⟩ := hw'
    subst hw''
    go_wp2
    go_ret
    refine ⟨rfl, ?_⟩
    (repeat (first | exact Below.refl _ _ | refine below_drewN' ?_ _ | refine below_ext ?_ (by simp <;> omega) _ | apply Below.drew | refine Below.setCell ?_ (by simp <;> omega) _ | refine Below.alloc ?_ (by simp <;> omega) _))

theorem own : ownKnob Try.prog.godebug = none := by kernel_rfl
theorem laidOut : laidOutB Try.prog = true := by kernel_rfl

set_option maxRecDepth 100000 in
theorem lifted (os : Os) (started : os.Started) (H : Type) (enc : TypeId × Value → H) :
    ReturnsInHanded {} Try.checked os 5 .any (Rows.fnOrdLimbsSpec.pre6 enc Try.prog Try.f5 Rows.fnOrdLimbsRow.domain false) (Rows.fnOrdLimbsSpec.post enc Try.prog Try.f5 false true false false) := by
  refine returnsInHanded_of_change (C := Try.checked) own started (by kernel_rfl) Try.func5
    (ChangeSpec.witness6 (enc := enc) (C := Try.checked) false ⟨#[], #[.agg #[.int .u8 0, .int .u8 0, .int .u8 0, .int .u8 0, .int .u8 0, .int .u8 0, .int .u8 0, .int .u8 0, .int .u8 0, .int .u8 0, .int .u8 0, .int .u8 0, .int .u8 0, .int .u8 0, .int .u8 0, .int .u8 0, .int .u8 0, .int .u8 0, .int .u8 0, .int .u8 0, .int .u8 0, .int .u8 0, .int .u8 0, .int .u8 0, .int .u8 0, .int .u8 0, .int .u8 0, .int .u8 0, .int .u8 0, .int .u8 0, .int .u8 0, .int .u8 0]], []⟩ 8 (by kernel_rfl) (by kernel_rfl) (by kernel_rfl) (by kernel_rfl)) ?_
  intro W base args ds gs before hval0 hW _ _
  have hval : ∀ (j : Nat) t v, Try.f5.params[j]? = some t → args[j]? = some v → Value.okWide Try.prog W .any base t v := hval0
  have hW' := hW
  obtain ⟨p, q, hA0, _, rfl, _, _⟩ := hW
  have hA : DataW.TrodAll enc Try.prog W 0 (fun _ => true) true Try.f5.params.toList args.toList ds p := hA0
  rw [Try.params5] at hA hval
  obtain ⟨v0, vs0, d0, ds0, p0, q0, hargs, rfl, rfl, h0, r0⟩ := trodAll_cons hA
  obtain ⟨rfl, rfl, rfl⟩ := trodAll_nil r0
  obtain rfl : args = #[v0] := by cases args; simp_all
  obtain ⟨a0, rfl, l0, w0⟩ := okWide_ints 5 Try.underlying31 (by kernel_rfl) (by kernel_rfl) Try.underlying5 (hval 0 31 v0 rfl rfl)
  clear hA0 hval0
  refine (walk a0 l0 w0 W).mono fun e W' ⟨he, hg⟩ => ?_
  subst he
  exact ⟨_, rfl, law_post laidOut hW' rfl rfl Try.underlying4 rfl (by kernel_rfl) hg⟩

theorem over : Rows.fnOrdLimbsRow.holds Try.pinned (OpenSpec.ofChange Rows.fnOrdLimbsSpec) :=
  OpenClaim.holds_of_wide 5 Try.f5 rfl rfl rfl rfl rfl rfl rfl ⟨rfl, rfl, rfl, rfl, rfl⟩ rfl rfl rfl rfl rfl (by kernel_rfl) Try.func5 (by kernel_rfl)
    (of_decide_eq_true (by kernel_rfl)) (by unfold Func.isWrapper; first | (rw [if_pos (by decide +kernel)]; kernel_rfl) | (rw [if_neg (by decide +kernel)]; exact ⟨rfl, rfl⟩))
    (fun os started H enc _ => lifted os started H enc)

/-- THE STATEMENT. -/
theorem proved : Rows.FnOrdLimbsSaid :=
  over
#print axioms proved
end Go.Proofs.Ytllnfnjcnhgbaaa.fnOrdLimbs
