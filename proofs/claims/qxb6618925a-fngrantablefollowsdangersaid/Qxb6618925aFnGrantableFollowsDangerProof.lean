/-
  A proof of 'Rows.FnGrantableFollowsDangerSaid': for every two ints the law returns true.
  The frame (own, lifted, over, proved) was written by the kit's proof-skeleton for this function; the lemmas and the walk are the prover's.
-/
import Derived.Test.Qxb6618925aRows
import Derived.WalkKit
import Derived.ProofKit
import Derived.OpenShut
import Derived.ShutString
namespace Go.Proofs.Qxb6618925a.fnGrantableFollowsDanger
open Go.ChangeShapes Go.WideShapes Go.ChangeAt Go.RowKit
open Go.ChangeMaps (open_string shut_string)
set_option linter.unusedVariables false      -- a walk need not use every 'w<i>' (that an integer argument fits its kind)

theorem own : ownKnob Try.prog.godebug = none := by kernel_rfl

/-! ### THE PLAIN FUNCTIONS, AND THE CALLEES' CONTRACTS -/
def guardB (n : Int) : Bool := n == 0 || n == 1
def grantB (n : Int) : Bool := !guardB n && n != 2
theorem ret_bool {a b : Bool} (h : a = b) : Ending.returned (.bool a) = .returned (.bool b) := by rw [h]

theorem guarded_any (n : Int) (w : World) :
    Calls Try.prog 9 #[.int .i64 n] w fun e w' => e = .returned (.bool (guardB n)) ∧ w = w' := by
  by_cases h0 : n = 0
  · subst h0
    go_enter Try.func9, Try.ntmps9
    go_wp2
    go_ret
    exact ⟨rfl, rfl⟩
  · have h : (n == 0) = false := by simpa using h0
    clear h0
    go_enter Try.func9, Try.ntmps9
    go_wp2
    go_ret
    exact ⟨ret_bool (by simp [guardB, h]), rfl⟩

theorem grantable_any (n : Int) (w : World) :
    Calls Try.prog 8 #[.int .i64 n] w fun e w' => e = .returned (.bool (grantB n)) ∧ w = w' := by
  cases h : guardB n
  all_goals
    go_enter Try.func8, Try.ntmps8
    go_wp2_with (go_at_call 9; refine (guarded_any _ _).mono ?_; rintro e w' ⟨rfl, rfl⟩)
    go_ret
    exact ⟨ret_bool (by simp [grantB, h]), rfl⟩

theorem zzGrantable_any (n : Int) (w : World) :
    Calls Try.prog 5 #[.int .i64 n] w fun e w' => e = .returned (.bool (grantB n)) ∧ w = w' := by
  go_enter Try.func5, Try.ntmps5
  go_wp2_with (go_at_call 8; refine (grantable_any _ _).mono ?_; rintro e w' ⟨rfl, rfl⟩)
  go_ret
  exact ⟨rfl, rfl⟩

theorem zzGuarded_any (n : Int) (w : World) :
    Calls Try.prog 6 #[.int .i64 n] w fun e w' => e = .returned (.bool (guardB n)) ∧ w = w' := by
  go_enter Try.func6, Try.ntmps6
  go_wp2_with (go_at_call 9; refine (guarded_any _ _).mono ?_; rintro e w' ⟨rfl, rfl⟩)
  go_ret
  exact ⟨rfl, rfl⟩

/-- the three kinds of effect -/
theorem kinds (n : Int) (_h0 : 0 ≤ n) (_h5 : n ≤ 5) :
    (n ≤ 1 ∧ guardB n = true ∧ grantB n = false) ∨ n = 2 ∨ (3 ≤ n ∧ guardB n = false ∧ grantB n = true) := by
  have e : n = 0 ∨ n = 1 ∨ n = 2 ∨ n = 3 ∨ n = 4 ∨ n = 5 := by omega
  rcases e with rfl | rfl | rfl | rfl | rfl | rfl <;> decide

/-! ### THE WALK -/
set_option maxHeartbeats 400000 in
theorem walk_in (a0 a1 : Int) (h0 : 0 ≤ a0) (h1 : a0 ≤ a1) (h2 : a1 ≤ 5) (w : World) :
    Calls Try.prog 3 #[.int .i64 a0, .int .i64 a1] w fun e w' => e = .returned (.bool true) ∧ Grown w w' := by
  have g2 : grantB 2 = false := rfl
  have d2 : guardB 2 = false := rfl
  rcases kinds a0 h0 (by omega) with ⟨p0, q0, r0⟩ | rfl | ⟨p0, q0, r0⟩ <;> rcases kinds a1 (by omega) h2 with ⟨p1, q1, r1⟩ | rfl | ⟨p1, q1, r1⟩
  all_goals first
    | (exfalso; omega)
    | (go_enter Try.func3, Try.ntmps3
       go_wp2_with (first | (go_at_call 5; refine (zzGrantable_any _ _).mono ?_; rintro e w' ⟨rfl, rfl⟩) | (go_at_call 6; refine (zzGuarded_any _ _).mono ?_; rintro e w' ⟨rfl, rfl⟩))
       go_ret
       exact ⟨rfl, Grown.refl _⟩)

theorem walk (a0 : Int) (a1 : Int) (w0 : (Lit.int .i64 a0).wf = true) (w1 : (Lit.int .i64 a1).wf = true) (w : World) :
    Calls Try.prog 3 #[.int .i64 a0, .int .i64 a1] w fun e w' => e = .returned (.bool true) ∧ Grown w w' := by
  by_cases c1 : a0 < 0
  · go_enter Try.func3, Try.ntmps3
    go_wp2
    go_ret
    exact ⟨rfl, Grown.refl _⟩
  by_cases c2 : 5 < a1
  · go_enter Try.func3, Try.ntmps3
    go_wp2
    go_ret
    exact ⟨rfl, Grown.refl _⟩
  by_cases c3 : a1 < a0
  · go_enter Try.func3, Try.ntmps3
    go_wp2
    go_ret
    exact ⟨rfl, Grown.refl _⟩
  exact walk_in a0 a1 (by omega) (by omega) (by omega) w

/-! ### THE ROW's STEP: WRITTEN OUT: LEAVE IT -/
set_option maxRecDepth 100000 in
theorem lifted (os : Os) (started : os.Started) (H : Type) (enc : TypeId × Value → H) :
    ReturnsInHanded {} Try.checked os 3 .any (Rows.fnGrantableFollowsDangerSpec.pre6 enc Try.prog Try.f3 Rows.fnGrantableFollowsDangerRow.domain false) (Rows.fnGrantableFollowsDangerSpec.post enc Try.prog Try.f3 false true false false) := by
  refine returnsInHanded_of_change (C := Try.checked) own started (by kernel_rfl) Try.func3
    (ChangeSpec.witness6 (enc := enc) (C := Try.checked) false ⟨#[], #[.int .i64 0, .int .i64 0], []⟩ 8 (by kernel_rfl) (by kernel_rfl) (by kernel_rfl) (by kernel_rfl)) ?_
  intro W base args ds gs before hval0 hW hcnd _
  have hval : ∀ (j : Nat) t v, Try.f3.params[j]? = some t → args[j]? = some v → Value.okWide Try.prog W .any base t v := hval0
  have hW' := hW
  obtain ⟨p, q, hA0, hV, rfl, hfz, hnd⟩ := hW
  have hA : DataW.TrodAll enc Try.prog W 0 (fun _ => true) true Try.f3.params.toList args.toList ds p := hA0
  rw [Try.params3] at hA hval
  obtain ⟨v0, vs0, d0, ds0, p0, q0, hargs, rfl, rfl, h0, r0⟩ := trodAll_cons hA
  obtain ⟨v1, vs1, d1, ds1, p1, q1, rfl, rfl, rfl, h1, r1⟩ := trodAll_cons r0
  obtain ⟨rfl, rfl, rfl⟩ := trodAll_nil r1
  obtain rfl : args = #[v0, v1] := by cases args; simp_all
  obtain ⟨rfl, rfl⟩ := trodVars_none hV
  obtain ⟨a0, rfl, rfl, rfl, w0⟩ := open_int Try.underlying3 (hval 0 3 v0 rfl rfl) h0
  obtain ⟨a1, rfl, rfl, rfl, w1⟩ := open_int Try.underlying3 (hval 1 3 v1 rfl rfl) h1
  clear hA0 hval0
  simp only [List.append_nil] at hW'
  refine (walk a0 a1 w0 w1 W).mono fun e W' ⟨he, hg⟩ => ?_
  subst he
  exact ⟨_, rfl, post_of_same (pa := []) (pv := []) hW' (fun _ _ _ => (trodAll_cons_mk (shut_bool Try.underlying4 _) trodAll_mk0)) (fun sp _ => (trodAll_cons_mk (shut_int Try.underlying3 w0) (trodAll_cons_mk (shut_int Try.underlying3 w1) trodAll_mk0))) (fun _ _ => rfl) rfl
    (hg.frame _) hg.2.1 (ok_one (by kernel_rfl) rfl (okWide_bool_mk Try.underlying4 _))⟩

theorem over : Rows.fnGrantableFollowsDangerRow.holds Try.pinned (OpenSpec.ofChange Rows.fnGrantableFollowsDangerSpec) :=
  OpenClaim.holds_of_wide 3 Try.f3 rfl rfl rfl rfl rfl rfl rfl ⟨rfl, rfl, rfl, rfl, rfl⟩ rfl rfl rfl rfl rfl (by kernel_rfl) Try.func3 (by kernel_rfl)
    (of_decide_eq_true (by kernel_rfl)) (by unfold Func.isWrapper; first | (rw [if_pos (by decide +kernel)]; kernel_rfl) | (rw [if_neg (by decide +kernel)]; exact ⟨rfl, rfl⟩))
    (fun os started H enc _ => lifted os started H enc)

/-- THE STATEMENT -/
theorem proved : Rows.FnGrantableFollowsDangerSaid :=
  over
#print axioms proved
end Go.Proofs.Qxb6618925a.fnGrantableFollowsDanger
