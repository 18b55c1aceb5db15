/-
  What is proved here: what the laws on three coordinates lean on.
  Conditions: those of each theorem.
-/
import Derived.Test.YtgdjmgcolipcnaaProg
import Derived.Test.YtgdjmgcolipcnaaAffN
import Derived.Test.YtgdjmgcolipcnaaAffAAffB
import Derived.Test.YtgdjmgcolipcnaaAffC
import Derived.Test.YtgdjmgcolipcnaaPrj
import Derived.WalkKit
import Derived.WalkSpells
import Derived.Outline
import Derived.Handy
import Derived.ProofKit
import Derived.Deep.QuietTactic
import Derived.BigQuiet
import Derived.Lib.Hide
import Derived.OpenShut
import Derived.Test.YtgdjmgcolipcnaaKit
namespace Go.Proofs.Ytgdjmgcolipcnaa
open Go Go.RowKit Ecp
set_option linter.unusedSimpArgs false
set_option linter.unusedVariables false

instance decAff (x y z : Fp) : Decidable (affOk x y z) := by unfold affOk; infer_instance
theorem affine_good (x y z : Fp) (w : World) : Calls Try.prog 4 #[.agg (tc (x.val : Int) (y.val : Int) (z.val : Int))] w fun e w' => e = .returned (.tuple #[.agg (pv (affP x y z)), .bool (decide (affOk x y z))]) ∧ Ext w w' := by
  by_cases hz : z = 0
  · have e1 : pv (affP x y z) = pc true ((0 : Fp).val : Int) ((0 : Fp).val : Int) := by unfold affP; rw [if_pos hz]; rfl
    by_cases hx : x = 0
    · have e2 : decide (affOk x y z) = !decide (y = 0) := by
        rw [← decide_not]
        apply decide_eq_decide.2
        unfold affOk
        rw [if_pos hz]
        exact ⟨fun h => h.2, fun h => ⟨hx, h⟩⟩
      rw [e1, e2]
      exact affine_A x y z hz hx w
    · have e2 : decide (affOk x y z) = false := by
        apply decide_eq_false
        unfold affOk
        rw [if_pos hz]
        exact fun h => hx h.1
      rw [e1, e2]
      exact affine_B x y z hz hx w
  · have e1 : pv (affP x y z) = pc false ((x * finv z : Fp).val : Int) ((y * finv z : Fp).val : Int) := by unfold affP; rw [if_neg hz]; rfl
    have e2 : decide (affOk x y z) = decide (Onc (x * finv z) (y * finv z)) := by
      apply decide_eq_decide.2
      unfold affOk
      rw [if_neg hz]
    rw [e1, e2]
    exact affine_C x y z hz w
theorem fp_of {X : Int} (h0 : 0 ≤ X) (h1 : X < pI) : ∃ x : Fp, X = (x.val : Int) := ⟨zf X, by rw [zf_val, Int.emod_eq_of_lt h0 h1]⟩
/-- What reading three coordinates comes to: they are those of a point, or it says no. -/
theorem affine_cases (X Y Z : Int) (hX0 : 0 ≤ X) (hX : X < R256) (hY0 : 0 ≤ Y) (hY : Y < R256) (hZ0 : 0 ≤ Z) (hZ : Z < R256) :
    (∃ q : Pt, ∀ w, Calls Try.prog 4 #[.agg (tc X Y Z)] w fun e w' => e = .returned (.tuple #[.agg (pv q), .bool false]) ∧ Ext w w') ∨
    (∃ x y z : Fp, X = (x.val : Int) ∧ Y = (y.val : Int) ∧ Z = (z.val : Int) ∧ affOk x y z ∧ ∀ w, Calls Try.prog 4 #[.agg (tc X Y Z)] w fun e w' => e = .returned (.tuple #[.agg (pv (affP x y z)), .bool true]) ∧ Ext w w') := by
  by_cases a : X < pI
  · by_cases b : Y < pI
    · by_cases c : Z < pI
      · obtain ⟨x, rfl⟩ := fp_of hX0 a
        obtain ⟨y, rfl⟩ := fp_of hY0 b
        obtain ⟨z, rfl⟩ := fp_of hZ0 c
        by_cases h : affOk x y z
        · exact .inr ⟨x, y, z, rfl, rfl, rfl, h, fun w => by have := affine_good x y z w; rwa [decide_eq_true h] at this⟩
        · exact .inl ⟨affP x y z, fun w => by have := affine_good x y z w; rwa [decide_eq_false h] at this⟩
      · exact .inl ⟨.aff 0 0, fun w => affine_bad3 X Y Z hX0 hX hY0 hY hZ0 hZ a b c w⟩
    · exact .inl ⟨.aff 0 0, fun w => affine_bad2 X Y Z hX0 hX hY0 hY hZ0 hZ a b w⟩
  · exact .inl ⟨.aff 0 0, fun w => affine_bad1 X Y Z hX0 hX hY0 hY hZ0 hZ a w⟩
theorem part_x (f : Bool) (X Y : Int) (w : World) : (part 26 (pc f X Y) 1).run Try.prog w = .ok (.agg (ec X)) w := by
  have h := pc_x f X Y
  rw [ec_size] at h
  simp [part, isAgg, run_underlying Try.underlying26, go_sem, h]
theorem part_y (f : Bool) (X Y : Int) (w : World) : (part 26 (pc f X Y) 9).run Try.prog w = .ok (.agg (ec Y)) w := by
  have h := pc_y f X Y
  rw [ec_size] at h
  simp [part, isAgg, run_underlying Try.underlying26, go_sem, h]
theorem part_0 (f : Bool) (X Y : Int) (w : World) : (part 4 (pc f X Y) 0).run Try.prog w = .ok (.bool f) w := by
  have h := pc_0 f X Y
  simp [part, isAgg, run_underlying Try.underlying4, go_sem, h]
theorem eqE (d : Nat) (X : Int) (w : World) : (Op.equalIn (d + 2) 26 (.agg (ec X)) (.agg (ec X))).run Try.prog w = .ok true w := by
  have e : ec X = ((digs 8 X).map (Value.int .i64)).toArray := by unfold ec; rfl
  rw [e, run_equalIn_ints (P := Try.prog) w d 26 2 8 .i64 Try.underlying26 Try.underlying2 (fun w => by simp [go_sem]) _ _ (digs_length _ _) (digs_length _ _)]
  rw [decide_eq_true rfl]
theorem eqlP (f : Bool) (X Y : Int) (w : World) : (binOp .eql 28 (.agg (pc f X Y)) (.agg (pc f X Y))).run Try.prog w = .ok (.bool true) w := by
  rw [run_eql_struct, run_equalIn_struct (P := Try.prog) w 9999 28 _ _ (by kernel_rfl) (by kernel_rfl)]
  have hF : (Try.prog.fieldsOf 28).toList.map (fun f => (f.name != "_", f.type, f.offset)) = [(true, 4, 0), (true, 26, 1), (true, 26, 9)] := by kernel_rfl
  generalize (Try.prog.fieldsOf 28).toList = l at hF
  rcases l with _ | ⟨a, _ | ⟨b, _ | ⟨c, _ | ⟨d, l⟩⟩⟩⟩
  · simp at hF
  · simp at hF
  · simp at hF
  · simp only [List.map_cons, List.map_nil, List.cons.injEq, Prod.mk.injEq, and_true] at hF
    obtain ⟨⟨n1, t1, o1⟩, ⟨n2, t2, o2⟩, n3, t3, o3⟩ := hF
    have m1 : a.name ≠ "_" := by simpa using n1
    have m2 : b.name ≠ "_" := by simpa using n2
    have m3 : c.name ≠ "_" := by simpa using n3
    have hb := run_equalIn_bool' (P := Try.prog) w 9998 4 f f Try.underlying4
    have he : ∀ X w, (Op.equalIn 9999 26 (.agg (ec X)) (.agg (ec X))).run Try.prog w = .ok true w := fun X w => eqE 9997 X w
    rw [beq_self_eq_true] at hb
    have hb' : (Op.equalIn 9999 4 (.bool f) (.bool f)).run Try.prog w = .ok true w := hb
    simp only [Op.eqFields, ne_eq, m1, m2, m3, not_false_eq_true, if_true, t1, t2, t3, o1, o2, o3, Sem.run_bind, part_0, part_x, part_y, Result.andThen_ok, hb', he, Bool.not_true, Bool.false_eq_true, if_false, Sem.run_pure]
  · simp at hF
set_option maxHeartbeats 1000000 in
set_option maxRecDepth 100000 in
theorem isTriple_true (x y z : Fp) (p : Pt) (hok : affOk x y z) (hp : affP x y z = p) (w : World) : Calls Try.prog 6 #[.agg (tc (x.val : Int) (y.val : Int) (z.val : Int)), .agg (pv p)] w fun e w' => e = .returned (.bool true) ∧ Ext w w' := by
  subst hp
  have HA := Lib.hid (fun w => (by have h := affine_good x y z w; rw [decide_eq_true hok] at h; exact h : Calls Try.prog 4 #[.agg (tc (x.val : Int) (y.val : Int) (z.val : Int))] w fun e w' => e = .returned (.tuple #[.agg (pv (affP x y z)), .bool true]) ∧ Ext w w'))
  obtain ⟨f, X, Y, hpv⟩ : ∃ f X Y, pv (affP x y z) = pc f X Y := by
    cases affP x y z with
    | far => exact ⟨_, _, _, rfl⟩
    | aff a b => exact ⟨_, _, _, rfl⟩
  rw [hpv] at HA ⊢
  have HE := eqlP
  clear hok hpv
  go_enter Try.func6, Try.ntmps6
  go_wp2_with (first | (go_at_call 4; go_must (refine (HA.out _).mono ?_); rintro e w' ⟨rfl, g1, rfl⟩) | (first
      | (refine wpList_load_rowW rfl 24 _ rfl _ rfl _ _ _ _ (by (with_reducible first | assumption | (simp only [hsA, setRow_heap]; first | done | rfl) | (repeat (first | assumption | (refine heap_at _ _ _ ?_; simp only [hsA, setRow_heap]; done) | refine ext_row (Ext.al _ _) ?_ | refine ext_row (Ext.gr _ _) ?_ | refine ext_row (by assumption) ?_)))) Try.underlying24 rfl (inT _ _ _) ?_)
      | (refine wpList_load_partW rfl 24 _ rfl _ _ rfl _ _ _ (by (with_reducible first | assumption | (simp only [hsA, setRow_heap]; first | done | rfl) | (repeat (first | assumption | (refine heap_at _ _ _ ?_; simp only [hsA, setRow_heap]; done) | refine ext_row (Ext.al _ _) ?_ | refine ext_row (Ext.gr _ _) ?_ | refine ext_row (by assumption) ?_)))) _ (by first | with_reducible exact pc_x _ _ _ | with_reducible exact pc_y _ _ _ | with_reducible exact tc_x _ _ _ | with_reducible exact tc_y _ _ _ | with_reducible exact tc_z _ _ _) _ Try.underlying24 rfl (inT _ _ _) ?_)
      | (refine wpList_store_rowW rfl 24 _ _ rfl _ _ rfl rfl _ _ (by (with_reducible first | assumption | (simp only [hsA, setRow_heap]; first | done | rfl) | (repeat (first | assumption | (refine heap_at _ _ _ ?_; simp only [hsA, setRow_heap]; done) | refine ext_row (Ext.al _ _) ?_ | refine ext_row (Ext.gr _ _) ?_ | refine ext_row (by assumption) ?_)))) (inT _ _ _) (by simp only [ec_size, bc_size, pc_size, tc_size, ec_size, bc_size, pc_size, tc_size]; try rfl) (tc_one _ _ _) ?_; (try simp only [nmA]))
      | (refine wpList_load_rowW rfl 28 _ rfl _ rfl _ _ _ _ (by (with_reducible first | assumption | (simp only [hsA, setRow_heap]; first | done | rfl) | (repeat (first | assumption | (refine heap_at _ _ _ ?_; simp only [hsA, setRow_heap]; done) | refine ext_row (Ext.al _ _) ?_ | refine ext_row (Ext.gr _ _) ?_ | refine ext_row (by assumption) ?_)))) Try.underlying28 rfl (inP _ _ _) ?_)
      | (refine wpList_load_partW rfl 28 _ rfl _ _ rfl _ _ _ (by (with_reducible first | assumption | (simp only [hsA, setRow_heap]; first | done | rfl) | (repeat (first | assumption | (refine heap_at _ _ _ ?_; simp only [hsA, setRow_heap]; done) | refine ext_row (Ext.al _ _) ?_ | refine ext_row (Ext.gr _ _) ?_ | refine ext_row (by assumption) ?_)))) _ (by first | with_reducible exact pc_x _ _ _ | with_reducible exact pc_y _ _ _ | with_reducible exact tc_x _ _ _ | with_reducible exact tc_y _ _ _ | with_reducible exact tc_z _ _ _) _ Try.underlying28 rfl (inP _ _ _) ?_)
      | (refine wpList_store_rowW rfl 28 _ _ rfl _ _ rfl rfl _ _ (by (with_reducible first | assumption | (simp only [hsA, setRow_heap]; first | done | rfl) | (repeat (first | assumption | (refine heap_at _ _ _ ?_; simp only [hsA, setRow_heap]; done) | refine ext_row (Ext.al _ _) ?_ | refine ext_row (Ext.gr _ _) ?_ | refine ext_row (by assumption) ?_)))) (inP _ _ _) (by simp only [ec_size, bc_size, pc_size, tc_size, ec_size, bc_size, pc_size, tc_size]; try rfl) (pc_one _ _ _) ?_; (try simp only [nmA]))))
  refine bodyPost_ret (v := ?v3) (by simp [results, Try.results6, go_sem]; rfl) rfl ⟨rfl, ?_⟩
  (repeat (first | exact Ext.refl _ | assumption | exact hE6 .. | refine Ext.trans ?_ (Ext.al _ _) | refine Ext.trans ?_ (Ext.gr _ _) | refine Ext.trans ?_ (by with_reducible assumption) | refine Ext.setRow ?_ (by first | omega | (simp <;> omega)) _))
end Go.Proofs.Ytgdjmgcolipcnaa
/-
  What is proved here: how a struct of integers that came in reads; three coordinates out of 96 bytes; a point's row.
  Conditions: none.
-/
namespace Go.Proofs.Ytgdjmgcolipcnaa
open Go Go.ChangeShapes Go.WideShapes Go.ChangeAt Go.RowKit Ecp
set_option linter.unusedSimpArgs false
set_option linter.unusedVariables false

/-- The integers of a struct of arrays of integers that came in. -/
theorem okWide_row {P : Program} {w : World} {r : Reach} {base : Nat} {t e : TypeId} {k : IntKind} {n : Nat} {v : Value} {fs : Array Field} (ht : P.underlying t = some (.struct fs)) (hc : P.cellsOf t = n)
    (hts : P.cellTypes P.depth t = some (List.replicate n e)) (he : P.underlying e = some (.int k)) (h : Value.okWide P w r base t v) :
    ∃ l : List Int, v = .agg (l.map (Value.int k)).toArray ∧ l.length = n ∧ ∀ x ∈ l, (Lit.int k x).wf = true := by
  simp only [Value.okWide, ht] at h
  obtain ⟨cs, rfl, hs, ts, hts', _, hall⟩ := h
  rw [hts] at hts'
  obtain rfl := Option.some.inj hts'
  rw [hc] at hs
  have hcell : ∀ i : Nat, i < n → ∃ x : Int, cs[i]? = some (.int k x) ∧ (Lit.int k x).wf = true := by
    intro i hi
    obtain ⟨y, hy⟩ : ∃ y, cs[i]? = some y := ⟨cs[i], by simp [hs, hi]⟩
    obtain ⟨u', hu, hok⟩ := hall i y hy
    have hu' : u' = e := by
      rw [List.getElem?_replicate] at hu
      split at hu
      · exact (Option.some.inj hu).symm
      · cases hu
    subst hu'
    cases y <;> simp only [Cell.okWide, Cell.ok, he] at hok
    case int k' x =>
      obtain ⟨rfl, hx⟩ := hok
      exact ⟨x, hy, by simpa [Lit.wf, IntKind.has] using hx⟩
  refine ⟨(List.range n).map fun i => intAt cs[i]?, ?_, by simp, ?_⟩
  · congr 1
    apply Array.ext
    · simp [hs]
    · intro i h1 h2
      obtain ⟨x, hx, _⟩ := hcell i (by omega)
      have : cs[i] = .int k x := by
        have := Array.getElem?_eq_getElem h1
        rw [this] at hx
        exact Option.some.inj hx
      simp [intAt, this, hx]
  · intro x hx
    simp only [List.mem_map, List.mem_range] at hx
    obtain ⟨i, hi, rfl⟩ := hx
    obtain ⟨x, hx, hw⟩ := hcell i hi
    simp [intAt, hx, hw]
theorem bc_be (l : List Int) (hl : l.length = 32) (h : ∀ x ∈ l, 0 ≤ x ∧ x < 256) : bc (be l) = (l.map (Value.int .u8)).toArray := by
  rw [bc_def, bds_be l hl h, List.reverse_reverse]
theorem tc_of (l : List Int) (hl : l.length = 96) (h : ∀ x ∈ l, 0 ≤ x ∧ x < 256) : ∃ X Y Z : Int, 0 ≤ X ∧ X < R256 ∧ 0 ≤ Y ∧ Y < R256 ∧ 0 ≤ Z ∧ Z < R256 ∧ (l.map (Value.int .u8)).toArray = tc X Y Z := by
  have e : l = l.take 32 ++ (l.drop 32).take 32 ++ (l.drop 64) := by
    rw [List.append_assoc, show l.drop 64 = (l.drop 32).drop 32 by rw [List.drop_drop], List.take_append_drop, List.take_append_drop]
  have l1 : (l.take 32).length = 32 := by rw [List.length_take]; omega
  have l2 : ((l.drop 32).take 32).length = 32 := by rw [List.length_take, List.length_drop]; omega
  have l3 : (l.drop 64).length = 32 := by rw [List.length_drop]; omega
  have b1 : ∀ x ∈ l.take 32, 0 ≤ x ∧ x < 256 := fun x hx => h x (List.mem_of_mem_take hx)
  have b2 : ∀ x ∈ (l.drop 32).take 32, 0 ≤ x ∧ x < 256 := fun x hx => h x (List.mem_of_mem_drop (List.mem_of_mem_take hx))
  have b3 : ∀ x ∈ l.drop 64, 0 ≤ x ∧ x < 256 := fun x hx => h x (List.mem_of_mem_drop hx)
  have k1 := be_bd _ l1 b1
  have k2 := be_bd _ l2 b2
  have k3 := be_bd _ l3 b3
  refine ⟨be (l.take 32), be ((l.drop 32).take 32), be (l.drop 64), k1.1, k1.2, k2.1, k2.2, k3.1, k3.2, ?_⟩
  have ht : ∀ X Y Z, tc X Y Z = bc X ++ bc Y ++ bc Z := fun X Y Z => by unfold tc; rfl
  rw [ht, bc_be _ l1 b1, bc_be _ l2 b2, bc_be _ l3 b3]
  apply Array.ext'
  simp only [Array.toList_append]
  rw [← List.map_append, ← List.map_append, ← e]
theorem pv_pc (q : Pt) : ∃ f X Y, pv q = pc f X Y := by
  cases q with
  | far => exact ⟨_, _, _, rfl⟩
  | aff a b => exact ⟨_, _, _, rfl⟩
end Go.Proofs.Ytgdjmgcolipcnaa
