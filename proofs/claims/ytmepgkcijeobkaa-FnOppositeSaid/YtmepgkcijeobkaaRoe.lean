/-
  What is proved here: whether two points of the reference are one; the sum of a point and one that the reference has told.
  Conditions: those of each theorem.
-/
import Derived.Test.YtmepgkcijeobkaaRdaLaw0Rod
import Derived.Laws.StructEq
namespace Go.Proofs.Ytmepgkcijeobkaa
open Go Go.RowKit Ecp
set_option linter.unusedSimpArgs false
set_option linter.unusedVariables false
theorem part_xR (f : Bool) (X Y : Int) (w : World) : (part 24 (pc f X Y) 1).run Try.prog w = .ok (.agg (ec X)) w := by
  have h := pc_x f X Y
  rw [ec_size] at h
  simp [part, isAgg, run_underlying Try.underlying24, go_sem, h]
theorem part_yR (f : Bool) (X Y : Int) (w : World) : (part 24 (pc f X Y) 9).run Try.prog w = .ok (.agg (ec Y)) w := by
  have h := pc_y f X Y
  rw [ec_size] at h
  simp [part, isAgg, run_underlying Try.underlying24, go_sem, h]
theorem part_0R (f : Bool) (X Y : Int) (w : World) : (part 4 (pc f X Y) 0).run Try.prog w = .ok (.bool f) w := by
  have h := pc_0 f X Y
  simp [part, isAgg, run_underlying Try.underlying4, go_sem, h]
theorem eqER (d : Nat) (X U : Int) (w : World) : (Op.equalIn (d + 2) 24 (.agg (ec X)) (.agg (ec U))).run Try.prog w = .ok (decide (digs 8 X = digs 8 U)) w := by
  have e : ∀ X, ec X = ((digs 8 X).map (Value.int .i64)).toArray := fun X => by unfold ec; rfl
  rw [e X, e U, run_equalIn_ints (P := Try.prog) w d 24 2 8 .i64 Try.underlying24 Try.underlying2 (fun w => by simp [go_sem]) _ _ (digs_length _ _) (digs_length _ _)]
theorem eqlPR (f g : Bool) (X Y U V : Int) (b1 b2 b3 : Bool) (h1 : (f == g) = b1) (h2 : decide (digs 8 X = digs 8 U) = b2) (h3 : decide (digs 8 Y = digs 8 V) = b3) (w : World) : (binOp .eql 26 (.agg (pc f X Y)) (.agg (pc g U V))).run Try.prog w = .ok (.bool (b1 && (b2 && b3))) w := by
  rw [run_eql_struct, run_equalIn_struct (P := Try.prog) w 9999 26 _ _ (by kernel_rfl) (by kernel_rfl)]
  have hF : (Try.prog.fieldsOf 26).toList.map (fun f => (f.name != "_", f.type, f.offset)) = [(true, 4, 0), (true, 24, 1), (true, 24, 9)] := by kernel_rfl
  generalize (Try.prog.fieldsOf 26).toList = l at hF
  rcases l with _ | ⟨a, _ | ⟨b, _ | ⟨c, _ | ⟨d, l⟩⟩⟩⟩
  · simp at hF
  · simp at hF
  · simp at hF
  · simp only [List.map_cons, List.map_nil, List.cons.injEq, Prod.mk.injEq, and_true] at hF
    obtain ⟨⟨n1, t1, o1⟩, ⟨n2, t2, o2⟩, n3, t3, o3⟩ := hF
    have m1 : a.name ≠ "_" := by simpa using n1
    have m2 : b.name ≠ "_" := by simpa using n2
    have m3 : c.name ≠ "_" := by simpa using n3
    have hb := run_equalIn_bool' (P := Try.prog) w 9998 4 f g Try.underlying4
    rw [h1] at hb
    have hb' : (Op.equalIn 9999 4 (.bool f) (.bool g)).run Try.prog w = .ok b1 w := hb
    have hx : (Op.equalIn 9999 24 (.agg (ec X)) (.agg (ec U))).run Try.prog w = .ok b2 w := by rw [← h2]; exact eqER 9997 X U w
    have hy : (Op.equalIn 9999 24 (.agg (ec Y)) (.agg (ec V))).run Try.prog w = .ok b3 w := by rw [← h3]; exact eqER 9997 Y V w
    cases b1 <;> cases b2 <;> cases b3 <;> simp only [Op.eqFields, ne_eq, m1, m2, m3, not_false_eq_true, if_true, t1, t2, t3, o1, o2, o3, Sem.run_bind, part_0R, part_xR, part_yR, Result.andThen_ok, hb', hx, hy, Bool.not_true, Bool.not_false, Bool.false_eq_true, if_false, Sem.run_pure, Bool.and_true, Bool.and_false, Bool.true_and, Bool.false_and]
  · simp at hF
theorem digs_ne {x y : Fp} (h : x ≠ y) : decide (digs 8 (x.val : Int) = digs 8 (y.val : Int)) = false := by rw [digs_fp]; exact decide_eq_false h
/-- Whether two points are one. -/
theorem eql_pv (p q : Pt) (b : Bool) (hb : p = q ↔ b = true) (w : World) : (binOp .eql 26 (.agg (pv p)) (.agg (pv q))).run Try.prog w = .ok (.bool b) w := by
  cases p with
  | far =>
    cases q with
    | far =>
      obtain rfl := hb.1 rfl
      exact eqlPR true true _ _ _ _ true true true rfl (decide_eq_true rfl) (decide_eq_true rfl) w
    | aff u v =>
      have hf : b = false := by
        cases b with
        | false => rfl
        | true => exact absurd (hb.2 rfl) (fun e => by cases e)
      subst hf
      exact eqlPR true false _ _ _ _ false _ _ rfl rfl rfl w
  | aff x y =>
    cases q with
    | far =>
      have hf : b = false := by
        cases b with
        | false => rfl
        | true => exact absurd (hb.2 rfl) (fun e => by cases e)
      subst hf
      exact eqlPR false true _ _ _ _ false _ _ rfl rfl rfl w
    | aff u v =>
      by_cases hx : x = u
      · by_cases hy : y = v
        · subst hx hy
          obtain rfl := hb.1 rfl
          exact eqlPR false false _ _ _ _ true true true rfl (decide_eq_true rfl) (decide_eq_true rfl) w
        · have hf : b = false := by
            cases b with
            | false => rfl
            | true => exact absurd (hb.2 rfl) (fun e => by injection e with _ e2; exact hy e2)
          subst hf
          have h := eqlPR false false (x.val : Int) (y.val : Int) (u.val : Int) (v.val : Int) true _ false rfl rfl (digs_ne hy) w
          rw [Bool.and_false, Bool.and_false] at h
          exact h
      · have hf : b = false := by
          cases b with
          | false => rfl
          | true => exact absurd (hb.2 rfl) (fun e => by injection e with e1 _; exact hx e1)
        subst hf
        have h := eqlPR false false (x.val : Int) (y.val : Int) (u.val : Int) (v.val : Int) true false _ rfl (digs_ne hx) rfl w
        rw [Bool.false_and, Bool.and_false] at h
        exact h
theorem yieldsIf_eqlP {ops : Array Oper} {S : World → Prop} {o : Oper} {a : Act} (hw : Region.wanted o (yielded ops a.tmps) = true) (x y : Operand) (ho : o.op = .binOp .eql 26 x y 26) (A B : Array Value) (hx : a.eval x = .agg A) (hy : a.eval y = .agg B) (b : Bool)
    (hb : ∀ w, (binOp .eql 26 (.agg A) (.agg B)).run Try.prog w = .ok (.bool b) w) : YieldsIf Try.prog ops S o (.bool b) a :=
  .inl ⟨hw, fun w _ => by
    unfold execOp
    simp only [ho, hx, hy, Sem.run_bind, run_eqGuard_agg w .eql _ x y A B (by rw [Try.eqGuardType26]), Result.andThen_ok, Sem.run_map, hb]
    rfl⟩
set_option maxHeartbeats 2000000 in
set_option maxRecDepth 100000 in
theorem sum_told (a : Option Addr) (n k g k2 : Nat) (P Q : Pt) (w : World) (h : Gd w a n k P) (h2 : Told w g Q) : Calls Try.prog 50 #[.slice a n k, .slice (some ⟨g, 0, none⟩) (wrL Q).length k2] w fun e w' => ∃ g, e = .returned (.slice (some ⟨g, 0, none⟩) (wrL (psum P Q)).length 65) ∧ Ext w w' ∧ Told w' g (psum P Q) := by
  have hon := psum_on h.on h2.2.2
  obtain ⟨c, o, l, rfl, rfl, p1, p2, p3, p4⟩ := h
  have H := Lib.hid (iAdd_any c o k g 0 k2 l (wrL Q) P Q w p1 p2 p4 h2.1 h2.2.1 (cod_wr h2.2.2))
  clear h2 p1 p2 p3 p4
  go_enter Try.func50, Try.ntmps50
  go_wp2_with (go_at_call 47; (with_reducible refine H.out.mono ?_); rintro e w1 ⟨g, rfl, hl, hE, hh⟩; have H1 := Lib.hid (And.intro hl (And.intro hE hh)); clear hl hE hh)
  exact bodyPost_ret (v := .slice (some ⟨g, 0, none⟩) (wrL (psum P Q)).length 65) (by simp [results, Try.results50, go_sem]) rfl ⟨g, rfl, H1.out.2.1, H1.out.1, H1.out.2.2, hon⟩
theorem written_told (p : Pt) (hp : p.on) (w : World) : Calls Try.prog 26 #[.agg (pv p)] w fun e w' => ∃ g kk, e = .returned (.slice (some ⟨g, 0, none⟩) (wrL p).length kk) ∧ Ext w w' ∧ Told w' g p := by
  refine (Written_any p w).mono ?_
  rintro e w' ⟨g, k, rfl, h1, h2, h3⟩
  exact ⟨g, k, rfl, h2, h1, h3, hp⟩
/-- Whether a slice is the one byte 0. -/
theorem same_zero (g k c : Nat) (P : Pt) (b : Bool) (hb : P = .far ↔ b = true) (w : World) (h : Told w g P) (hc : Held .u8 w c 0 [0]) : Calls Try.prog 25 #[.slice (some ⟨g, 0, none⟩) (wrL P).length k, .slice (some ⟨c, 0, none⟩) 1 1] w fun e w' => e = .returned (.bool b) ∧ Ext w w' := by
  have hs := same_any g 0 k c 0 1 (wrL P) [0] w h.2.1 (wrL_bd P) hc (fun x hx => by simp at hx; omega)
  have e : decide (wrL P = [0]) = b := by
    cases P with
    | far => rw [hb.1 rfl]; rfl
    | aff x y =>
      have hf : b = false := by
        cases b with
        | false => rfl
        | true => exact absurd (hb.2 rfl) (fun e => by cases e)
      rw [hf]
      apply decide_eq_false
      intro e
      have := congrArg List.length e
      simp [wrL, Bx_len] at this
  rw [e] at hs
  exact hs
end Go.Proofs.Ytmepgkcijeobkaa
