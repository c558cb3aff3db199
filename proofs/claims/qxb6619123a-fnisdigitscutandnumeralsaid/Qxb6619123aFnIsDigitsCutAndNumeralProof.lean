/-
  A proof of 'Rows.FnIsDigitsCutAndNumeralSaid': for every two strings and every int64 the law returns true.
  The frame (own, lifted, over, proved) was written by the kit's proof-skeleton for this function; the lemmas and the walk are the prover's.
-/
import Derived.Test.Qxb6619123aRows
import Derived.WalkKit
import Derived.ProofKit
import Derived.OpenShut
import Derived.ShutString
import Derived.Test.Qxb6619123aNumerals
namespace Go.Proofs.Qxb6619123a.fnIsDigitsCutAndNumeral
open Go.ChangeShapes Go.WideShapes Go.ChangeAt Go.RowKit
open Go.ChangeMaps (open_string shut_string)
set_option linter.unusedVariables false      -- a walk need not use every 'w<i>' (that an integer argument fits its kind)

theorem own : ownKnob Try.prog.godebug = none := by kernel_rfl

open parts

theorem bytes_yes (a b : ByteArray) (n : Int) (w : World) (h : a.size + b.size ≤ 1048576) :
    Calls Try.prog 6 #[.string a, .string b, .int .i64 n] w fun e w' => e = .returned (.bool true) ∧ w = w' := by
  have h0 : (a.size : Int) ≤ 1048576 := by omega
  have h1 : (b.size : Int) ≤ 1048576 := by omega
  have h2 : (a.size : Int) + (b.size : Int) ≤ 1048576 := by omega
  go_enter Try.func6, Try.ntmps6
  go_wp2
  go_ret
  exact ⟨rfl, rfl⟩
theorem bytes_no (a b : ByteArray) (n : Int) (w : World) (m0 : a.size ≤ 9223372036854775807) (m1 : b.size ≤ 9223372036854775807) (h : 1048576 < a.size + b.size) :
    Calls Try.prog 6 #[.string a, .string b, .int .i64 n] w fun e w' => e = .returned (.bool false) ∧ w = w' := by
  have h2 : 1048576 < (a.size : Int) + (b.size : Int) := by omega
  by_cases h0 : 1048576 < a.size
  · go_enter Try.func6, Try.ntmps6
    go_wp2
    go_ret
    exact ⟨rfl, rfl⟩
  · by_cases h1 : 1048576 < b.size
    · go_enter Try.func6, Try.ntmps6
      go_wp2
      go_ret
      exact ⟨rfl, rfl⟩
    · go_enter Try.func6, Try.ntmps6
      go_wp2
      go_ret
      exact ⟨rfl, rfl⟩

/-- all that the law asks of the numeral t -/
theorem facts {a t : ByteArray} {ea sg : Bool} (ht : 0 < t.size) (hd : t.data.toList.all dig = sg) (he : eodB a.data.toList = ea) :
    digitsB t.data.toList = sg ∧ digitsB (a.data.toList ++ t.data.toList) = (ea && sg) := by
  have h2 := digits_behind a t ht
  rw [cat_data, he, hd] at h2
  refine ⟨?_, h2⟩
  cases sg
  · exact digits_not hd
  · exact digits_of ht hd

/-! ### THE WALK -/
set_option maxHeartbeats 2000000 in
set_option maxRecDepth 100000 in
theorem core_pos (a b : ByteArray) (n : Int) (w : World) (ha : a.size ≤ 524288) (hb : b.size ≤ 524288) (h0 : 0 ≤ n) (hn : n ≤ 9223372036854775807)
    (ea eb na nb : Bool) (h1 : eodB a.data.toList = ea) (h2 : eodB b.data.toList = eb) (h3 : a.toList.isEmpty = na) (h4 : b.toList.isEmpty = nb)
    (hj : digitsB (a.data.toList ++ b.data.toList) = (ea && eb && (!na || !nb))) :
    Calls Try.prog 3 #[.string a, .string b, .int .i64 n] w fun e w' => e = .returned (.bool true) ∧ Grown w w' := by
  cases ea <;> cases eb <;> cases na <;> cases nb
  all_goals
    simp only [Bool.and_true, Bool.and_false, Bool.not_true, Bool.not_false, Bool.or_true, Bool.or_false] at hj
    go_enter Try.func3, Try.ntmps3
    go_wp2_with (first
      | (go_at_call 6; refine (bytes_yes _ _ _ _ (by omega)).mono ?_; rintro e w' ⟨rfl, rfl⟩)
      | (go_at_call 7; refine (zzIsDigits_any _ _ (by first | omega | (rw [cat_size]; omega))).mono ?_; rintro e w' ⟨rfl, rfl⟩)
      | (go_at_call 8; refine (eod_any _ _ (by omega)).mono ?_; rintro e w' ⟨rfl, rfl⟩)
      | (go_at_call 9; refine (zzItoa_pos _ _ h0 hn).mono ?_; rintro e w1 ⟨t, rfl, ht0, ht1, htd, hg1⟩; obtain ⟨f1, f2⟩ := facts ht0 htd h1; clear htd))
    go_ret
    exact ⟨rfl, by assumption⟩

set_option maxHeartbeats 2000000 in
set_option maxRecDepth 100000 in
theorem core_neg (a b : ByteArray) (n : Int) (w : World) (ha : a.size ≤ 524288) (hb : b.size ≤ 524288) (h0 : n < 0) (hn : -9223372036854775808 ≤ n)
    (ea eb na nb : Bool) (h1 : eodB a.data.toList = ea) (h2 : eodB b.data.toList = eb) (h3 : a.toList.isEmpty = na) (h4 : b.toList.isEmpty = nb)
    (hj : digitsB (a.data.toList ++ b.data.toList) = (ea && eb && (!na || !nb))) :
    Calls Try.prog 3 #[.string a, .string b, .int .i64 n] w fun e w' => e = .returned (.bool true) ∧ Grown w w' := by
  cases ea <;> cases eb <;> cases na <;> cases nb
  all_goals
    simp only [Bool.and_true, Bool.and_false, Bool.not_true, Bool.not_false, Bool.or_true, Bool.or_false] at hj
    go_enter Try.func3, Try.ntmps3
    go_wp2_with (first
      | (go_at_call 6; refine (bytes_yes _ _ _ _ (by omega)).mono ?_; rintro e w' ⟨rfl, rfl⟩)
      | (go_at_call 7; refine (zzIsDigits_any _ _ (by first | omega | (rw [cat_size]; omega))).mono ?_; rintro e w' ⟨rfl, rfl⟩)
      | (go_at_call 8; refine (eod_any _ _ (by omega)).mono ?_; rintro e w' ⟨rfl, rfl⟩)
      | (go_at_call 9; refine (zzItoa_neg _ _ h0 hn).mono ?_; rintro e w1 ⟨t, rfl, ht0, ht1, htd, hg1⟩; obtain ⟨f1, f2⟩ := facts ht0 htd h1; clear htd))
    go_ret
    exact ⟨rfl, by assumption⟩

theorem walk (a0 : ByteArray) (a1 : ByteArray) (a2 : Int) (w0 : a0.size ≤ maxLen) (w1 : a1.size ≤ maxLen) (w2 : (Lit.int .i64 a2).wf = true) (w : World) :
    Calls Try.prog 3 #[.string a0, .string a1, .int .i64 a2] w fun e w' => e = .returned (.bool true) ∧ Grown w w' := by
  unfold maxLen at w0 w1
  have b2 := bounds_i64 w2
  by_cases c1 : 1048576 < a0.size + a1.size
  · go_enter Try.func3, Try.ntmps3
    go_wp2_with (go_at_call 6; refine (bytes_no _ _ _ _ (by omega) (by omega) c1).mono ?_; rintro e w' ⟨rfl, rfl⟩)
    go_ret
    exact ⟨rfl, Grown.refl _⟩
  by_cases c2 : 524288 < a0.size
  · go_enter Try.func3, Try.ntmps3
    go_wp2_with (go_at_call 6; refine (bytes_yes _ _ _ _ (by omega)).mono ?_; rintro e w' ⟨rfl, rfl⟩)
    go_ret
    exact ⟨rfl, Grown.refl _⟩
  by_cases c3 : 524288 < a1.size
  · go_enter Try.func3, Try.ntmps3
    go_wp2_with (go_at_call 6; refine (bytes_yes _ _ _ _ (by omega)).mono ?_; rintro e w' ⟨rfl, rfl⟩)
    go_ret
    exact ⟨rfl, Grown.refl _⟩
  have hj := digits_join a0 a1
  rw [cat_data] at hj
  by_cases c4 : 0 ≤ a2
  · exact core_pos a0 a1 a2 w (by omega) (by omega) c4 b2.2 _ _ _ _ rfl rfl rfl rfl hj
  · exact core_neg a0 a1 a2 w (by omega) (by omega) (by omega) b2.1 _ _ _ _ rfl rfl rfl rfl hj

/-! ### THE ROW's STEP: WRITTEN OUT: LEAVE IT -/
set_option maxRecDepth 100000 in
theorem lifted (os : Os) (started : os.Started) (H : Type) (enc : TypeId × Value → H) :
    ReturnsInHanded {} Try.checked os 3 .any (Rows.fnIsDigitsCutAndNumeralSpec.pre6 enc Try.prog Try.f3 Rows.fnIsDigitsCutAndNumeralRow.domain false) (Rows.fnIsDigitsCutAndNumeralSpec.post enc Try.prog Try.f3 false true false false) := by
  refine returnsInHanded_of_change (C := Try.checked) own started (by kernel_rfl) Try.func3
    (ChangeSpec.witness6 (enc := enc) (C := Try.checked) false ⟨#[], #[.string ByteArray.empty, .string ByteArray.empty, .int .i64 0], []⟩ 8 (by kernel_rfl) (by kernel_rfl) (by kernel_rfl) (by kernel_rfl)) ?_
  intro W base args ds gs before hval0 hW hcnd _
  have hval : ∀ (j : Nat) t v, Try.f3.params[j]? = some t → args[j]? = some v → Value.okWide Try.prog W .any base t v := hval0
  have hW' := hW
  obtain ⟨p, q, hA0, hV, rfl, hfz, hnd⟩ := hW
  have hA : DataW.TrodAll enc Try.prog W 0 (fun _ => true) true Try.f3.params.toList args.toList ds p := hA0
  rw [Try.params3] at hA hval
  obtain ⟨v0, vs0, d0, ds0, p0, q0, hargs, rfl, rfl, h0, r0⟩ := trodAll_cons hA
  obtain ⟨v1, vs1, d1, ds1, p1, q1, rfl, rfl, rfl, h1, r1⟩ := trodAll_cons r0
  obtain ⟨v2, vs2, d2, ds2, p2, q2, rfl, rfl, rfl, h2, r2⟩ := trodAll_cons r1
  obtain ⟨rfl, rfl, rfl⟩ := trodAll_nil r2
  obtain rfl : args = #[v0, v1, v2] := by cases args; simp_all
  obtain ⟨rfl, rfl⟩ := trodVars_none hV
  obtain ⟨a0, rfl, rfl, rfl, w0⟩ := open_string Try.underlying9 (hval 0 9 v0 rfl rfl) h0
  obtain ⟨a1, rfl, rfl, rfl, w1⟩ := open_string Try.underlying9 (hval 1 9 v1 rfl rfl) h1
  obtain ⟨a2, rfl, rfl, rfl, w2⟩ := open_int Try.underlying2 (hval 2 2 v2 rfl rfl) h2
  clear hA0 hval0
  simp only [List.append_nil] at hW'
  refine (walk a0 a1 a2 w0 w1 w2 W).mono fun e W' ⟨he, hg⟩ => ?_
  subst he
  exact ⟨_, rfl, post_of_same (pa := []) (pv := []) hW' (fun _ _ _ => (trodAll_cons_mk (shut_bool Try.underlying4 _) trodAll_mk0)) (fun sp _ => (trodAll_cons_mk (shut_string Try.underlying9 w0) (trodAll_cons_mk (shut_string Try.underlying9 w1) (trodAll_cons_mk (shut_int Try.underlying2 w2) trodAll_mk0)))) (fun _ _ => rfl) rfl
    (hg.frame _) hg.2.1 (ok_one (by kernel_rfl) rfl (okWide_bool_mk Try.underlying4 _))⟩

theorem over : Rows.fnIsDigitsCutAndNumeralRow.holds Try.pinned (OpenSpec.ofChange Rows.fnIsDigitsCutAndNumeralSpec) :=
  OpenClaim.holds_of_wide 3 Try.f3 rfl rfl rfl rfl rfl rfl rfl ⟨rfl, rfl, rfl, rfl, rfl⟩ rfl rfl rfl rfl rfl (by kernel_rfl) Try.func3 (by kernel_rfl)
    (of_decide_eq_true (by kernel_rfl)) (by unfold Func.isWrapper; first | (rw [if_pos (by decide +kernel)]; kernel_rfl) | (rw [if_neg (by decide +kernel)]; exact ⟨rfl, rfl⟩))
    (fun os started H enc _ => lifted os started H enc)

/-- THE STATEMENT -/
theorem proved : Rows.FnIsDigitsCutAndNumeralSaid :=
  over
#print axioms proved
end Go.Proofs.Qxb6619123a.fnIsDigitsCutAndNumeral
