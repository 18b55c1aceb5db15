/-
  What FnOrdBytes says: for every 32 bytes, the bytes told are those of the number reduced modulo the order.
  Conditions: none.
-/
import Derived.Test.YtllnfnjcnhgbaaaRows
import Derived.Test.YtllnfnjcnhgbaaaOrdD
import Derived.WalkKit
import Derived.WalkSpells
import Derived.Outline
import Derived.ProofKit
import Derived.OpenShut
namespace Go.Proofs.Ytllnfnjcnhgbaaa.fnOrdBytes
open Go.ChangeShapes Go.WideShapes Go.ChangeAt Go.RowKit
set_option linter.unusedSimpArgs false
set_option linter.unusedVariables false

set_option maxHeartbeats 4000000 in
set_option maxRecDepth 100000 in
theorem walk (l : List Int) (hl : l.length = 32) (hw : ∀ x ∈ l, (Lit.int .u8 x).wf = true) (w : World) :
    Calls Try.prog 6 #[.agg (l.map (Value.int .u8)).toArray] w fun e w' => e = .returned (.bool true) ∧ Below w.heap.size w w' := by
  have hb : ∀ x ∈ l, 0 ≤ x ∧ x < 256 := fun x hx => by
    have := bounds_u8 (hw x hx)
    omega
  clear hw
  have hbe := be_bd l hl hb
  match l, hl, hb, hbe with
  | [x0, x1, x2, x3, x4, x5, x6, x7, x8, x9, x10, x11, x12, x13, x14, x15, x16, x17, x18, x19, x20, x21, x22, x23, x24, x25, x26, x27, x28, x29, x30, x31], _, hb, hbe =>
    have HB := Lib.hid hb
    have HBE := Lib.hid hbe
    clear hb hbe
    have hlt : ∀ j, 0 ≤ ([x0, x1, x2, x3, x4, x5, x6, x7, x8, x9, x10, x11, x12, x13, x14, x15, x16, x17, x18, x19, x20, x21, x22, x23, x24, x25, x26, x27, x28, x29, x30, x31] : List Int).getD j 0 ∧ ([x0, x1, x2, x3, x4, x5, x6, x7, x8, x9, x10, x11, x12, x13, x14, x15, x16, x17, x18, x19, x20, x21, x22, x23, x24, x25, x26, x27, x28, x29, x30, x31] : List Int).getD j 0 < 256 := fun j => by
      by_cases h : j < 32
      · rw [List.getD_eq_getElem?_getD, List.getElem?_eq_getElem (by simpa using h)]; exact HB.out _ (List.getElem_mem _)
      · rw [List.getD_eq_getElem?_getD, List.getElem?_eq_none (by simp; omega)]; decide
    have HLT := Lib.hid hlt
    clear hlt
    have hor := ordRest_bd _ HBE.out.1 HBE.out.2
    have hqb := bds_bd 32 (ordRest (be [x0, x1, x2, x3, x4, x5, x6, x7, x8, x9, x10, x11, x12, x13, x14, x15, x16, x17, x18, x19, x20, x21, x22, x23, x24, x25, x26, x27, x28, x29, x30, x31]))
    obtain ⟨d0, d1, d2, d3, d4, d5, d6, d7, d8, d9, d10, d11, d12, d13, d14, d15, d16, d17, d18, d19, d20, d21, d22, d23, d24, d25, d26, d27, d28, d29, d30, d31, hd, he, _⟩ := B32_open (ordRest (be [x0, x1, x2, x3, x4, x5, x6, x7, x8, x9, x10, x11, x12, x13, x14, x15, x16, x17, x18, x19, x20, x21, x22, x23, x24, x25, x26, x27, x28, x29, x30, x31]))
    have HE := Lib.hid he
    have HD := Lib.hid hd
    have HO := Lib.hid hor
    have HQ := Lib.hid hqb
    clear hd he hor hqb
    have hcl : ∀ j, j < 32 → (#[.int .u8 x0, .int .u8 x1, .int .u8 x2, .int .u8 x3, .int .u8 x4, .int .u8 x5, .int .u8 x6, .int .u8 x7, .int .u8 x8, .int .u8 x9, .int .u8 x10, .int .u8 x11, .int .u8 x12, .int .u8 x13, .int .u8 x14, .int .u8 x15, .int .u8 x16, .int .u8 x17, .int .u8 x18, .int .u8 x19, .int .u8 x20, .int .u8 x21, .int .u8 x22, .int .u8 x23, .int .u8 x24, .int .u8 x25, .int .u8 x26, .int .u8 x27, .int .u8 x28, .int .u8 x29, .int .u8 x30, .int .u8 x31] : Array Value)[j]? = some (.int .u8 (([x0, x1, x2, x3, x4, x5, x6, x7, x8, x9, x10, x11, x12, x13, x14, x15, x16, x17, x18, x19, x20, x21, x22, x23, x24, x25, x26, x27, x28, x29, x30, x31] : List Int).getD j 0)) := fun j hj => by
      rcases (show j = 0 ∨ j = 1 ∨ j = 2 ∨ j = 3 ∨ j = 4 ∨ j = 5 ∨ j = 6 ∨ j = 7 ∨ j = 8 ∨ j = 9 ∨ j = 10 ∨ j = 11 ∨ j = 12 ∨ j = 13 ∨ j = 14 ∨ j = 15 ∨ j = 16 ∨ j = 17 ∨ j = 18 ∨ j = 19 ∨ j = 20 ∨ j = 21 ∨ j = 22 ∨ j = 23 ∨ j = 24 ∨ j = 25 ∨ j = 26 ∨ j = 27 ∨ j = 28 ∨ j = 29 ∨ j = 30 ∨ j = 31 by omega) with rfl | rfl | rfl | rfl | rfl | rfl | rfl | rfl | rfl | rfl | rfl | rfl | rfl | rfl | rfl | rfl | rfl | rfl | rfl | rfl | rfl | rfl | rfl | rfl | rfl | rfl | rfl | rfl | rfl | rfl | rfl | rfl <;> rfl
    have HCL := Lib.hid hcl
    clear hcl
    have hdl : ∀ j, j < 32 → (#[.int .u8 d31, .int .u8 d30, .int .u8 d29, .int .u8 d28, .int .u8 d27, .int .u8 d26, .int .u8 d25, .int .u8 d24, .int .u8 d23, .int .u8 d22, .int .u8 d21, .int .u8 d20, .int .u8 d19, .int .u8 d18, .int .u8 d17, .int .u8 d16, .int .u8 d15, .int .u8 d14, .int .u8 d13, .int .u8 d12, .int .u8 d11, .int .u8 d10, .int .u8 d9, .int .u8 d8, .int .u8 d7, .int .u8 d6, .int .u8 d5, .int .u8 d4, .int .u8 d3, .int .u8 d2, .int .u8 d1, .int .u8 d0] : Array Value)[j]? = some (.int .u8 ((bds 32 (ordRest (be [x0, x1, x2, x3, x4, x5, x6, x7, x8, x9, x10, x11, x12, x13, x14, x15, x16, x17, x18, x19, x20, x21, x22, x23, x24, x25, x26, x27, x28, x29, x30, x31]))).reverse.getD j 0)) := fun j hj => by
      rw [HD.out]
      rcases (show j = 0 ∨ j = 1 ∨ j = 2 ∨ j = 3 ∨ j = 4 ∨ j = 5 ∨ j = 6 ∨ j = 7 ∨ j = 8 ∨ j = 9 ∨ j = 10 ∨ j = 11 ∨ j = 12 ∨ j = 13 ∨ j = 14 ∨ j = 15 ∨ j = 16 ∨ j = 17 ∨ j = 18 ∨ j = 19 ∨ j = 20 ∨ j = 21 ∨ j = 22 ∨ j = 23 ∨ j = 24 ∨ j = 25 ∨ j = 26 ∨ j = 27 ∨ j = 28 ∨ j = 29 ∨ j = 30 ∨ j = 31 by omega) with rfl | rfl | rfl | rfl | rfl | rfl | rfl | rfl | rfl | rfl | rfl | rfl | rfl | rfl | rfl | rfl | rfl | rfl | rfl | rfl | rfl | rfl | rfl | rfl | rfl | rfl | rfl | rfl | rfl | rfl | rfl | rfl <;> rfl
    have HDL := Lib.hid hdl
    clear hdl
    have by_ : ∀ w, Calls Try.prog 16 #[E8 (ordRest (be [x0, x1, x2, x3, x4, x5, x6, x7, x8, x9, x10, x11, x12, x13, x14, x15, x16, x17, x18, x19, x20, x21, x22, x23, x24, x25, x26, x27, x28, x29, x30, x31]))] w fun e w' => e = .returned (.agg #[.int .u8 d31, .int .u8 d30, .int .u8 d29, .int .u8 d28, .int .u8 d27, .int .u8 d26, .int .u8 d25, .int .u8 d24, .int .u8 d23, .int .u8 d22, .int .u8 d21, .int .u8 d20, .int .u8 d19, .int .u8 d18, .int .u8 d17, .int .u8 d16, .int .u8 d15, .int .u8 d14, .int .u8 d13, .int .u8 d12, .int .u8 d11, .int .u8 d10, .int .u8 d9, .int .u8 d8, .int .u8 d7, .int .u8 d6, .int .u8 d5, .int .u8 d4, .int .u8 d3, .int .u8 d2, .int .u8 d1, .int .u8 d0]) ∧ Ext w w' := fun w => by
      have h := Bytes_any (ordRest (be [x0, x1, x2, x3, x4, x5, x6, x7, x8, x9, x10, x11, x12, x13, x14, x15, x16, x17, x18, x19, x20, x21, x22, x23, x24, x25, x26, x27, x28, x29, x30, x31])) HO.out.1 HO.out.2 w
      rw [HE.out] at h
      exact h
    have BY := Lib.hid by_
    clear by_
    have of_ : ∀ w, Calls Try.prog 14 #[.agg #[.int .u8 x0, .int .u8 x1, .int .u8 x2, .int .u8 x3, .int .u8 x4, .int .u8 x5, .int .u8 x6, .int .u8 x7, .int .u8 x8, .int .u8 x9, .int .u8 x10, .int .u8 x11, .int .u8 x12, .int .u8 x13, .int .u8 x14, .int .u8 x15, .int .u8 x16, .int .u8 x17, .int .u8 x18, .int .u8 x19, .int .u8 x20, .int .u8 x21, .int .u8 x22, .int .u8 x23, .int .u8 x24, .int .u8 x25, .int .u8 x26, .int .u8 x27, .int .u8 x28, .int .u8 x29, .int .u8 x30, .int .u8 x31]] w fun e w' => e = .returned (E8 (be [x0, x1, x2, x3, x4, x5, x6, x7, x8, x9, x10, x11, x12, x13, x14, x15, x16, x17, x18, x19, x20, x21, x22, x23, x24, x25, x26, x27, x28, x29, x30, x31])) ∧ Ext w w' := fun w => Of_any [x0, x1, x2, x3, x4, x5, x6, x7, x8, x9, x10, x11, x12, x13, x14, x15, x16, x17, x18, x19, x20, x21, x22, x23, x24, x25, x26, x27, x28, x29, x30, x31] rfl HB.out w
    have OF := Lib.hid of_
    clear of_
    show Calls Try.prog 6 #[.agg #[.int .u8 x0, .int .u8 x1, .int .u8 x2, .int .u8 x3, .int .u8 x4, .int .u8 x5, .int .u8 x6, .int .u8 x7, .int .u8 x8, .int .u8 x9, .int .u8 x10, .int .u8 x11, .int .u8 x12, .int .u8 x13, .int .u8 x14, .int .u8 x15, .int .u8 x16, .int .u8 x17, .int .u8 x18, .int .u8 x19, .int .u8 x20, .int .u8 x21, .int .u8 x22, .int .u8 x23, .int .u8 x24, .int .u8 x25, .int .u8 x26, .int .u8 x27, .int .u8 x28, .int .u8 x29, .int .u8 x30, .int .u8 x31]] w _
    go_enter Try.func6, Try.ntmps6
    go_wp2_with (first
      | (go_at_call 15; (with_reducible refine (OrdBytes_impl w.heap.size 0 32 (fun j => ([x0, x1, x2, x3, x4, x5, x6, x7, x8, x9, x10, x11, x12, x13, x14, x15, x16, x17, x18, x19, x20, x21, x22, x23, x24, x25, x26, x27, x28, x29, x30, x31] : List Int).getD j 0) HLT.out _ (by simp) ?_).mono ?_); (· intro j hj; rw [Nat.zero_add, World.cell?_alloc_new]; exact HCL.out j hj); rintro e w1 ⟨g, rfl, hg0, hg1, hcell, g1, rfl⟩; rw [show (List.range 32).map (fun j => ([x0, x1, x2, x3, x4, x5, x6, x7, x8, x9, x10, x11, x12, x13, x14, x15, x16, x17, x18, x19, x20, x21, x22, x23, x24, x25, x26, x27, x28, x29, x30, x31] : List Int).getD j 0) = [x0, x1, x2, x3, x4, x5, x6, x7, x8, x9, x10, x11, x12, x13, x14, x15, x16, x17, x18, x19, x20, x21, x22, x23, x24, x25, x26, x27, x28, x29, x30, x31] from rfl] at hcell; have HX := Lib.hid (And.intro hg0 (And.intro hg1 hcell)); clear hg0 hg1 hcell)
      | (refine wpList_load_row rfl 31 _ rfl _ rfl 31 _ (0, 0) _ ((heap_ext _ _ _ (by simp)).trans (heap_at _ _ _ rfl)) Try.underlying31 rfl ?_ ?_; (· kernel_rfl))
      | (go_at_call 14; (with_reducible refine (OF.out _).mono ?_); rintro e w' ⟨rfl, g2, rfl⟩; rw [ext_ext])
      | (go_at_call 13; (with_reducible refine (OrdRest_any (be [x0, x1, x2, x3, x4, x5, x6, x7, x8, x9, x10, x11, x12, x13, x14, x15, x16, x17, x18, x19, x20, x21, x22, x23, x24, x25, x26, x27, x28, x29, x30, x31]) HBE.out.1 HBE.out.2 _).mono ?_); rintro e w' ⟨rfl, g3, rfl⟩; rw [ext_ext])
      | (go_at_call 16; (with_reducible refine (BY.out _).mono ?_); rintro e w' ⟨rfl, g4, rfl⟩; rw [ext_ext])
      | (refine wpList_store_row rfl 31 _ _ rfl _ _ rfl rfl 31 #[.int .u8 0, .int .u8 0, .int .u8 0, .int .u8 0, .int .u8 0, .int .u8 0, .int .u8 0, .int .u8 0, .int .u8 0, .int .u8 0, .int .u8 0, .int .u8 0, .int .u8 0, .int .u8 0, .int .u8 0, .int .u8 0, .int .u8 0, .int .u8 0, .int .u8 0, .int .u8 0, .int .u8 0, .int .u8 0, .int .u8 0, .int .u8 0, .int .u8 0, .int .u8 0, .int .u8 0, .int .u8 0, .int .u8 0, .int .u8 0, .int .u8 0, .int .u8 0] (heap_at _ _ _ (by simp <;> omega)) (by kernel_rfl) rfl ?_ ?_; (· simp [Value.oneCell']); rw [setRow_alloc_at _ _ _ _ _ (by simp <;> omega)])
      | (go_at_call 17; have hsz : w.heap.size + 1 + (g1.os.length + (g2.os.length + (g3.os.length + g4.os.length))) = (ext (w.alloc (.cells #[.int .u8 x0, .int .u8 x1, .int .u8 x2, .int .u8 x3, .int .u8 x4, .int .u8 x5, .int .u8 x6, .int .u8 x7, .int .u8 x8, .int .u8 x9, .int .u8 x10, .int .u8 x11, .int .u8 x12, .int .u8 x13, .int .u8 x14, .int .u8 x15, .int .u8 x16, .int .u8 x17, .int .u8 x18, .int .u8 x19, .int .u8 x20, .int .u8 x21, .int .u8 x22, .int .u8 x23, .int .u8 x24, .int .u8 x25, .int .u8 x26, .int .u8 x27, .int .u8 x28, .int .u8 x29, .int .u8 x30, .int .u8 x31] 31)) { os := g1.os ++ (g2.os ++ (g3.os ++ g4.os)), n := g4.n }).heap.size := (by simp); refine (same_any g 0 32 _ 0 32 (bds 32 (ordRest (be [x0, x1, x2, x3, x4, x5, x6, x7, x8, x9, x10, x11, x12, x13, x14, x15, x16, x17, x18, x19, x20, x21, x22, x23, x24, x25, x26, x27, x28, x29, x30, x31]))).reverse (bds 32 (ordRest (be [x0, x1, x2, x3, x4, x5, x6, x7, x8, x9, x10, x11, x12, x13, x14, x15, x16, x17, x18, x19, x20, x21, x22, x23, x24, x25, x26, x27, x28, x29, x30, x31]))).reverse 32 32 (by simp [bds_length]) (by simp [bds_length]) _ ?_ ?_ (fun x hx => HQ.out x (by simpa using hx)) (fun x hx => HQ.out x (by simpa using hx))).mono ?_; (· intro i hi; rw [Nat.zero_add]; have hg : g < (ext (w.alloc (.cells #[.int .u8 x0, .int .u8 x1, .int .u8 x2, .int .u8 x3, .int .u8 x4, .int .u8 x5, .int .u8 x6, .int .u8 x7, .int .u8 x8, .int .u8 x9, .int .u8 x10, .int .u8 x11, .int .u8 x12, .int .u8 x13, .int .u8 x14, .int .u8 x15, .int .u8 x16, .int .u8 x17, .int .u8 x18, .int .u8 x19, .int .u8 x20, .int .u8 x21, .int .u8 x22, .int .u8 x23, .int .u8 x24, .int .u8 x25, .int .u8 x26, .int .u8 x27, .int .u8 x28, .int .u8 x29, .int .u8 x30, .int .u8 x31] 31)) g1).heap.size := HX.out.2.1; have e1 : ext (w.alloc (.cells #[.int .u8 x0, .int .u8 x1, .int .u8 x2, .int .u8 x3, .int .u8 x4, .int .u8 x5, .int .u8 x6, .int .u8 x7, .int .u8 x8, .int .u8 x9, .int .u8 x10, .int .u8 x11, .int .u8 x12, .int .u8 x13, .int .u8 x14, .int .u8 x15, .int .u8 x16, .int .u8 x17, .int .u8 x18, .int .u8 x19, .int .u8 x20, .int .u8 x21, .int .u8 x22, .int .u8 x23, .int .u8 x24, .int .u8 x25, .int .u8 x26, .int .u8 x27, .int .u8 x28, .int .u8 x29, .int .u8 x30, .int .u8 x31] 31)) { os := g1.os ++ (g2.os ++ (g3.os ++ g4.os)), n := g4.n } = ext (ext (w.alloc (.cells #[.int .u8 x0, .int .u8 x1, .int .u8 x2, .int .u8 x3, .int .u8 x4, .int .u8 x5, .int .u8 x6, .int .u8 x7, .int .u8 x8, .int .u8 x9, .int .u8 x10, .int .u8 x11, .int .u8 x12, .int .u8 x13, .int .u8 x14, .int .u8 x15, .int .u8 x16, .int .u8 x17, .int .u8 x18, .int .u8 x19, .int .u8 x20, .int .u8 x21, .int .u8 x22, .int .u8 x23, .int .u8 x24, .int .u8 x25, .int .u8 x26, .int .u8 x27, .int .u8 x28, .int .u8 x29, .int .u8 x30, .int .u8 x31] 31)) g1) { os := g2.os ++ (g3.os ++ g4.os), n := g4.n } := (ext_ext _ g1 { os := g2.os ++ (g3.os ++ g4.os), n := g4.n }).symm; rw [e1, cell_al1 (by rw [size_ext]; omega), cell?_ext _ _ _ _ hg]; exact HX.out.2.2 i hi); (· intro i hi; rw [Nat.zero_add, hsz, World.cell?_alloc_new]; exact HDL.out i hi); clear hsz; rw [decide_eq_true rfl]; rintro e w' ⟨rfl, rfl⟩))
    go_ret
    refine ⟨rfl, ?_⟩
    (repeat (first | exact Below.refl _ _ | refine below_drewN' ?_ _ | refine below_ext ?_ (by simp <;> omega) _ | apply Below.drew | refine Below.setCell ?_ (by simp <;> omega) _ | refine Below.alloc ?_ (by simp <;> omega) _))

theorem own : ownKnob Try.prog.godebug = none := by kernel_rfl
theorem laidOut : laidOutB Try.prog = true := by kernel_rfl

set_option maxRecDepth 100000 in
theorem lifted (os : Os) (started : os.Started) (H : Type) (enc : TypeId × Value → H) :
    ReturnsInHanded {} Try.checked os 6 .any (Rows.fnOrdBytesSpec.pre6 enc Try.prog Try.f6 Rows.fnOrdBytesRow.domain false) (Rows.fnOrdBytesSpec.post enc Try.prog Try.f6 false true false false) := by
  refine returnsInHanded_of_change (C := Try.checked) own started (by kernel_rfl) Try.func6
    (ChangeSpec.witness6 (enc := enc) (C := Try.checked) false ⟨#[], #[.agg #[.int .u8 0, .int .u8 0, .int .u8 0, .int .u8 0, .int .u8 0, .int .u8 0, .int .u8 0, .int .u8 0, .int .u8 0, .int .u8 0, .int .u8 0, .int .u8 0, .int .u8 0, .int .u8 0, .int .u8 0, .int .u8 0, .int .u8 0, .int .u8 0, .int .u8 0, .int .u8 0, .int .u8 0, .int .u8 0, .int .u8 0, .int .u8 0, .int .u8 0, .int .u8 0, .int .u8 0, .int .u8 0, .int .u8 0, .int .u8 0, .int .u8 0, .int .u8 0]], []⟩ 8 (by kernel_rfl) (by kernel_rfl) (by kernel_rfl) (by kernel_rfl)) ?_
  intro W base args ds gs before hval0 hW _ _
  have hval : ∀ (j : Nat) t v, Try.f6.params[j]? = some t → args[j]? = some v → Value.okWide Try.prog W .any base t v := hval0
  have hW' := hW
  obtain ⟨p, q, hA0, _, rfl, _, _⟩ := hW
  have hA : DataW.TrodAll enc Try.prog W 0 (fun _ => true) true Try.f6.params.toList args.toList ds p := hA0
  rw [Try.params6] at hA hval
  obtain ⟨v0, vs0, d0, ds0, p0, q0, hargs, rfl, rfl, h0, r0⟩ := trodAll_cons hA
  obtain ⟨rfl, rfl, rfl⟩ := trodAll_nil r0
  obtain rfl : args = #[v0] := by cases args; simp_all
  obtain ⟨a0, rfl, l0, w0⟩ := okWide_ints 5 Try.underlying31 (by kernel_rfl) (by kernel_rfl) Try.underlying5 (hval 0 31 v0 rfl rfl)
  clear hA0 hval0
  refine (walk a0 l0 w0 W).mono fun e W' ⟨he, hg⟩ => ?_
  subst he
  exact ⟨_, rfl, law_post laidOut hW' rfl rfl Try.underlying4 rfl (by kernel_rfl) hg⟩

theorem over : Rows.fnOrdBytesRow.holds Try.pinned (OpenSpec.ofChange Rows.fnOrdBytesSpec) :=
  OpenClaim.holds_of_wide 6 Try.f6 rfl rfl rfl rfl rfl rfl rfl ⟨rfl, rfl, rfl, rfl, rfl⟩ rfl rfl rfl rfl rfl (by kernel_rfl) Try.func6 (by kernel_rfl)
    (of_decide_eq_true (by kernel_rfl)) (by unfold Func.isWrapper; first | (rw [if_pos (by decide +kernel)]; kernel_rfl) | (rw [if_neg (by decide +kernel)]; exact ⟨rfl, rfl⟩))
    (fun os started H enc _ => lifted os started H enc)

/-- THE STATEMENT. -/
theorem proved : Rows.FnOrdBytesSaid :=
  over
#print axioms proved
end Go.Proofs.Ytllnfnjcnhgbaaa.fnOrdBytes
