/-
  A proof of 'Rows.FnCommentRunsToFarthestEndSaid': for every four ints and two bools the law returns true.
  The frame (own, lifted, over, proved) was written by the kit's proof-skeleton for this function; the lemmas and the walk are the prover's.
-/
import Derived.Test.Qxb6618925aRows
import Derived.WalkKit
import Derived.ProofKit
import Derived.OpenShut
import Derived.ShutString
namespace Go.Proofs.Qxb6618925a.fnCommentRunsToFarthestEnd
open Go.ChangeShapes Go.WideShapes Go.ChangeAt Go.RowKit
open Go.ChangeMaps (open_string shut_string)
set_option linter.unusedVariables false      -- a walk need not use every 'w<i>' (that an integer argument fits its kind)

theorem own : ownKnob Try.prog.godebug = none := by kernel_rfl

theorem ret_bool {a b : Bool} (h : a = b) : Ending.returned (.bool a) = .returned (.bool b) := by rw [h]
/-- the plain function: does the comment run on to 'e'? -/
def runsB (he : Int) (text bq : Bool) (e : Int) : Bool := !text && !(bq && decide (he ≤ e))

theorem runs_any (st he : Int) (text bq : Bool) (e : Int) (w : World) :
    Calls Try.prog 7 #[.int .i64 st, .int .i64 he, .bool text, .bool bq, .int .i64 e] w fun r w' => r = .returned (.bool (runsB he text bq e)) ∧ Grown w w' := by
  cases text <;> cases bq
  all_goals
    go_enter Try.func7, Try.ntmps7
    go_wp2
    go_ret
    exact ⟨rfl, (Grown.refl _).alloc _ _⟩

theorem Grown_trans {a b c : World} (h1 : Grown a b) (h2 : Grown b c) : Grown a c := by
  obtain ⟨k1, f1, s1⟩ := h1
  obtain ⟨k2, f2, s2⟩ := h2
  exact ⟨World.keptBut_trans k1 k2, fun a => (f2 a).trans (f1 a), Nat.le_trans s1 s2⟩

theorem r_text (he e : Int) (bq : Bool) : runsB he true bq e = false := rfl
theorem r_plain (he e : Int) : runsB he false false e = true := rfl
theorem r_far {he e : Int} (h : he ≤ e) : runsB he false true e = false := by simp [runsB, h]
theorem r_near {he e : Int} (h : e < he) : runsB he false true e = true := by simp [runsB]; omega

/-- the same, counted from an elder world 'b' -/
theorem runs_from (b : World) (st he : Int) (text bq : Bool) (e : Int) (w : World) (hb : Grown b w) :
    Calls Try.prog 7 #[.int .i64 st, .int .i64 he, .bool text, .bool bq, .int .i64 e] w fun r w' => r = .returned (.bool (runsB he text bq e)) ∧ Grown b w' :=
  (runs_any st he text bq e w).mono fun _ _ ⟨h, g⟩ => ⟨h, Grown_trans hb g⟩

set_option maxHeartbeats 400000 in
theorem walk_text (a0 a1 : Int) (a3 : Bool) (a4 a5 : Int) (w : World) (hlo : -9223372036854775807 ≤ a1) (hhi : a1 ≤ 9223372036854775807) :
    Calls Try.prog 4 #[.int .i64 a0, .int .i64 a1, .bool true, .bool a3, .int .i64 a4, .int .i64 a5] w fun e w' => e = .returned (.bool true) ∧ Grown w w' := by
  have hg : Grown w w := Grown.refl w
  have e1 := fun e => r_text a1 e a3
  go_enter Try.func4, Try.ntmps4
  go_wp2_with (go_at_call 7; refine (runs_from w _ _ _ _ _ _ (by assumption)).mono ?_; clear hg; rintro e w' ⟨rfl, hg⟩)
  all_goals
    go_ret
    exact ⟨rfl, by assumption⟩

set_option maxHeartbeats 400000 in
theorem walk_plain (a0 a1 : Int) (a4 a5 : Int) (w : World) (hlo : -9223372036854775807 ≤ a1) (hhi : a1 ≤ 9223372036854775807) :
    Calls Try.prog 4 #[.int .i64 a0, .int .i64 a1, .bool false, .bool false, .int .i64 a4, .int .i64 a5] w fun e w' => e = .returned (.bool true) ∧ Grown w w' := by
  have hg : Grown w w := Grown.refl w
  have e1 := fun e => r_plain a1 e
  go_enter Try.func4, Try.ntmps4
  go_wp2_with (go_at_call 7; refine (runs_from w _ _ _ _ _ _ (by assumption)).mono ?_; clear hg; rintro e w' ⟨rfl, hg⟩)
  all_goals
    go_ret
    exact ⟨rfl, by assumption⟩

set_option maxHeartbeats 1000000 in
theorem walk_quoted (a0 a1 : Int) (a4 a5 : Int) (w : World) (hlo : -9223372036854775807 ≤ a1) (hhi : a1 ≤ 9223372036854775807) :
    Calls Try.prog 4 #[.int .i64 a0, .int .i64 a1, .bool false, .bool true, .int .i64 a4, .int .i64 a5] w fun e w' => e = .returned (.bool true) ∧ Grown w w' := by
  have hg : Grown w w := Grown.refl w
  have e3 : runsB a1 false true (a1 - 1) = true := r_near (by omega)
  have e4 : runsB a1 false true a1 = false := r_far (by omega)
  by_cases c4 : a1 ≤ a4 <;> by_cases c5 : a1 ≤ a5
  · have e1 := r_far c4
    have e2 := r_far c5
    have d : (decide (a4 < a1) == decide (a5 < a1)) = true := by simp; omega
    go_enter Try.func4, Try.ntmps4
    go_wp2_with (go_at_call 7; refine (runs_from w _ _ _ _ _ _ (by assumption)).mono ?_; clear hg; rintro e w' ⟨rfl, hg⟩)
    all_goals
      go_ret
      exact ⟨rfl, by assumption⟩
  · have e1 := r_far c4
    have e2 := r_near (show a5 < a1 by omega)
    have d : ¬ a4 ≤ a5 := by omega
    go_enter Try.func4, Try.ntmps4
    go_wp2_with (go_at_call 7; refine (runs_from w _ _ _ _ _ _ (by assumption)).mono ?_; clear hg; rintro e w' ⟨rfl, hg⟩)
    all_goals
      go_ret
      exact ⟨rfl, by assumption⟩
  · have e1 := r_near (show a4 < a1 by omega)
    have e2 := r_far c5
    go_enter Try.func4, Try.ntmps4
    go_wp2_with (go_at_call 7; refine (runs_from w _ _ _ _ _ _ (by assumption)).mono ?_; clear hg; rintro e w' ⟨rfl, hg⟩)
    all_goals
      go_ret
      exact ⟨rfl, by assumption⟩
  · have e1 := r_near (show a4 < a1 by omega)
    have e2 := r_near (show a5 < a1 by omega)
    go_enter Try.func4, Try.ntmps4
    go_wp2_with (go_at_call 7; refine (runs_from w _ _ _ _ _ _ (by assumption)).mono ?_; clear hg; rintro e w' ⟨rfl, hg⟩)
    all_goals
      go_ret
      exact ⟨rfl, by assumption⟩

theorem walk (a0 : Int) (a1 : Int) (a2 : Bool) (a3 : Bool) (a4 : Int) (a5 : Int) (w0 : (Lit.int .i64 a0).wf = true) (w1 : (Lit.int .i64 a1).wf = true) (w4 : (Lit.int .i64 a4).wf = true) (w5 : (Lit.int .i64 a5).wf = true) (w : World) :
    Calls Try.prog 4 #[.int .i64 a0, .int .i64 a1, .bool a2, .bool a3, .int .i64 a4, .int .i64 a5] w fun e w' => e = .returned (.bool true) ∧ Grown w w' := by
  have b1 := bounds_i64 w1
  by_cases hm : a1 ≤ -9223372036854775808
  · have hm' : a1 = -9223372036854775808 := by omega
    have hw : (-9223372036854775808 : Int) < wrap64 (-9223372036854775809) := by unfold wrap64; omega
    subst hm'
    clear hm b1 w1
    go_enter Try.func4, Try.ntmps4
    go_wp2
    go_ret
    exact ⟨rfl, Grown.refl _⟩
  · cases a2
    · cases a3
      · exact walk_plain a0 a1 a4 a5 w (by omega) b1.2
      · exact walk_quoted a0 a1 a4 a5 w (by omega) b1.2
    · exact walk_text a0 a1 a3 a4 a5 w (by omega) b1.2

/-! ### THE ROW's STEP: WRITTEN OUT: LEAVE IT -/
set_option maxRecDepth 100000 in
theorem lifted (os : Os) (started : os.Started) (H : Type) (enc : TypeId × Value → H) :
    ReturnsInHanded {} Try.checked os 4 .any (Rows.fnCommentRunsToFarthestEndSpec.pre6 enc Try.prog Try.f4 Rows.fnCommentRunsToFarthestEndRow.domain false) (Rows.fnCommentRunsToFarthestEndSpec.post enc Try.prog Try.f4 false true false false) := by
  refine returnsInHanded_of_change (C := Try.checked) own started (by kernel_rfl) Try.func4
    (ChangeSpec.witness6 (enc := enc) (C := Try.checked) false ⟨#[], #[.int .i64 0, .int .i64 0, .bool false, .bool false, .int .i64 0, .int .i64 0], []⟩ 8 (by kernel_rfl) (by kernel_rfl) (by kernel_rfl) (by kernel_rfl)) ?_
  intro W base args ds gs before hval0 hW hcnd _
  have hval : ∀ (j : Nat) t v, Try.f4.params[j]? = some t → args[j]? = some v → Value.okWide Try.prog W .any base t v := hval0
  have hW' := hW
  obtain ⟨p, q, hA0, hV, rfl, hfz, hnd⟩ := hW
  have hA : DataW.TrodAll enc Try.prog W 0 (fun _ => true) true Try.f4.params.toList args.toList ds p := hA0
  rw [Try.params4] at hA hval
  obtain ⟨v0, vs0, d0, ds0, p0, q0, hargs, rfl, rfl, h0, r0⟩ := trodAll_cons hA
  obtain ⟨v1, vs1, d1, ds1, p1, q1, rfl, rfl, rfl, h1, r1⟩ := trodAll_cons r0
  obtain ⟨v2, vs2, d2, ds2, p2, q2, rfl, rfl, rfl, h2, r2⟩ := trodAll_cons r1
  obtain ⟨v3, vs3, d3, ds3, p3, q3, rfl, rfl, rfl, h3, r3⟩ := trodAll_cons r2
  obtain ⟨v4, vs4, d4, ds4, p4, q4, rfl, rfl, rfl, h4, r4⟩ := trodAll_cons r3
  obtain ⟨v5, vs5, d5, ds5, p5, q5, rfl, rfl, rfl, h5, r5⟩ := trodAll_cons r4
  obtain ⟨rfl, rfl, rfl⟩ := trodAll_nil r5
  obtain rfl : args = #[v0, v1, v2, v3, v4, v5] := by cases args; simp_all
  obtain ⟨rfl, rfl⟩ := trodVars_none hV
  obtain ⟨a0, rfl, rfl, rfl, w0⟩ := open_int Try.underlying3 (hval 0 3 v0 rfl rfl) h0
  obtain ⟨a1, rfl, rfl, rfl, w1⟩ := open_int Try.underlying3 (hval 1 3 v1 rfl rfl) h1
  obtain ⟨a2, rfl, rfl, rfl⟩ := open_bool Try.underlying4 (hval 2 4 v2 rfl rfl) h2
  obtain ⟨a3, rfl, rfl, rfl⟩ := open_bool Try.underlying4 (hval 3 4 v3 rfl rfl) h3
  obtain ⟨a4, rfl, rfl, rfl, w4⟩ := open_int Try.underlying3 (hval 4 3 v4 rfl rfl) h4
  obtain ⟨a5, rfl, rfl, rfl, w5⟩ := open_int Try.underlying3 (hval 5 3 v5 rfl rfl) h5
  clear hA0 hval0
  simp only [List.append_nil] at hW'
  refine (walk a0 a1 a2 a3 a4 a5 w0 w1 w4 w5 W).mono fun e W' ⟨he, hg⟩ => ?_
  subst he
  exact ⟨_, rfl, post_of_same (pa := []) (pv := []) hW' (fun _ _ _ => (trodAll_cons_mk (shut_bool Try.underlying4 _) trodAll_mk0)) (fun sp _ => (trodAll_cons_mk (shut_int Try.underlying3 w0) (trodAll_cons_mk (shut_int Try.underlying3 w1) (trodAll_cons_mk (shut_bool Try.underlying4 _) (trodAll_cons_mk (shut_bool Try.underlying4 _) (trodAll_cons_mk (shut_int Try.underlying3 w4) (trodAll_cons_mk (shut_int Try.underlying3 w5) trodAll_mk0))))))) (fun _ _ => rfl) rfl
    (hg.frame _) hg.2.1 (ok_one (by kernel_rfl) rfl (okWide_bool_mk Try.underlying4 _))⟩

theorem over : Rows.fnCommentRunsToFarthestEndRow.holds Try.pinned (OpenSpec.ofChange Rows.fnCommentRunsToFarthestEndSpec) :=
  OpenClaim.holds_of_wide 4 Try.f4 rfl rfl rfl rfl rfl rfl rfl ⟨rfl, rfl, rfl, rfl, rfl⟩ rfl rfl rfl rfl rfl (by kernel_rfl) Try.func4 (by kernel_rfl)
    (of_decide_eq_true (by kernel_rfl)) (by unfold Func.isWrapper; first | (rw [if_pos (by decide +kernel)]; kernel_rfl) | (rw [if_neg (by decide +kernel)]; exact ⟨rfl, rfl⟩))
    (fun os started H enc _ => lifted os started H enc)

/-- THE STATEMENT -/
theorem proved : Rows.FnCommentRunsToFarthestEndSaid :=
  over
#print axioms proved
end Go.Proofs.Qxb6618925a.fnCommentRunsToFarthestEnd
