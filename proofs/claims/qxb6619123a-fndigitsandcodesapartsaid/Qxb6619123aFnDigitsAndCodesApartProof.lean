/-
  A proof of 'Rows.FnDigitsAndCodesApartSaid': for every string, uint64 and uint32 the law returns true.
  The frame (own, lifted, over, proved) was written by the kit's proof-skeleton for this function; the lemmas and the walk are the prover's.
-/
import Derived.Test.Qxb6619123aRows
import Derived.WalkKit
import Derived.ProofKit
import Derived.OpenShut
import Derived.ShutString
import Derived.Test.Qxb6619123aNumerals
namespace Go.Proofs.Qxb6619123a.fnDigitsAndCodesApart
open Go.ChangeShapes Go.WideShapes Go.ChangeAt Go.RowKit
open Go.ChangeMaps (open_string shut_string)
set_option linter.unusedVariables false      -- a walk need not use every 'w<i>' (that an integer argument fits its kind)

theorem own : ownKnob Try.prog.godebug = none := by kernel_rfl

open parts

theorem bytes_yes (s : ByteArray) (u k : Int) (w : World) (h : s.size ≤ 1048576) :
    Calls Try.prog 14 #[.string s, .int .u64 u, .int .u32 k] w fun e w' => e = .returned (.bool true) ∧ w = w' := by
  go_enter Try.func14, Try.ntmps14
  go_wp2
  go_ret
  exact ⟨rfl, rfl⟩
theorem bytes_no (s : ByteArray) (u k : Int) (w : World) (h : 1048576 < s.size) :
    Calls Try.prog 14 #[.string s, .int .u64 u, .int .u32 k] w fun e w' => e = .returned (.bool false) ∧ w = w' := by
  go_enter Try.func14, Try.ntmps14
  go_wp2
  go_ret
  exact ⟨rfl, rfl⟩

/-- all that the law asks of the numeral t and the triple c -/
theorem facts (t c : ByteArray) (ht : 0 < t.size) (hd : t.data.toList.all dig = true) (hc3 : c.size = 3) (hcc : codeB c.data.toList = true) :
    digitsB t.data.toList = true ∧ codeB t.data.toList = false ∧ digitsB c.data.toList = false ∧
      digitsB (c.data.toList ++ t.data.toList) = false ∧ codeB (c.data.toList ++ t.data.toList) = false := by
  have h1 := digits_of ht hd
  have h2 := mixed_digits c t hcc
  have h3 := mixed_code c t hc3 ht
  rw [cat_data] at h2 h3
  exact ⟨h1, apart h1, apart' hcc, h2, h3⟩

/-! ### THE WALK -/
set_option maxHeartbeats 1000000 in
set_option maxRecDepth 100000 in
theorem core (s : ByteArray) (u k : Int) (w : World) (hs : s.size ≤ 1048576) (hu0 : 0 ≤ u) (hu : u ≤ 18446744073709551615) (h0 : 0 ≤ k) (hk : k < 17576)
    (way : digitsB s.data.toList = false ∨ (digitsB s.data.toList = true ∧ codeB s.data.toList = false)) :
    Calls Try.prog 5 #[.string s, .int .u64 u, .int .u32 k] w fun e w' => e = .returned (.bool true) ∧ Grown w w' := by
  have hg : Grown w w := Grown.refl w
  rcases way with hds | ⟨hds, hcs⟩
  all_goals
    go_enter Try.func5, Try.ntmps5
    go_wp2_with (first
      | (go_at_call 14; refine (bytes_yes _ _ _ _ hs).mono ?_; rintro e w' ⟨rfl, rfl⟩)
      | (go_at_call 15; refine (utoa_from w _ _ hu0 hu hg).mono ?_; clear hg; rintro e w1 ⟨t, rfl, ht0, ht1, htd, hg1⟩)
      | (go_at_call 11; refine (code_from w _ _ h0 hk hg1).mono ?_; clear hg1; rintro e w2 ⟨c, rfl, hc3, hcc, hg2⟩; obtain ⟨f1, f2, f3, f4, f5⟩ := facts t c ht0 htd hc3 hcc; clear htd))
    go_wp2_with (first
      | (go_at_call 12; refine (zzIsCode_any _ _ (by first | omega | (rw [cat_size]; omega))).mono ?_; rintro e w' ⟨rfl, rfl⟩)
      | (go_at_call 7; refine (zzIsDigits_any _ _ (by first | omega | (rw [cat_size]; omega))).mono ?_; rintro e w' ⟨rfl, rfl⟩))
    go_ret
    exact ⟨rfl, by assumption⟩

theorem walk (a0 : ByteArray) (a1 : Int) (a2 : Int) (w0 : a0.size ≤ maxLen) (w1 : (Lit.int .u64 a1).wf = true) (w2 : (Lit.int .u32 a2).wf = true) (w : World) :
    Calls Try.prog 5 #[.string a0, .int .u64 a1, .int .u32 a2] w fun e w' => e = .returned (.bool true) ∧ Grown w w' := by
  unfold maxLen at w0
  have b1 := bounds_u64 w1
  have b2 := bounds_u32 w2
  by_cases c1 : 1048576 < a0.size
  · go_enter Try.func5, Try.ntmps5
    go_wp2_with (go_at_call 14; refine (bytes_no _ _ _ _ c1).mono ?_; rintro e w' ⟨rfl, rfl⟩)
    go_ret
    exact ⟨rfl, Grown.refl _⟩
  by_cases c2 : 17576 ≤ a2
  · go_enter Try.func5, Try.ntmps5
    go_wp2_with (go_at_call 14; refine (bytes_yes _ _ _ _ (by omega)).mono ?_; rintro e w' ⟨rfl, rfl⟩)
    go_ret
    exact ⟨rfl, Grown.refl _⟩
  refine core a0 a1 a2 w (by omega) b1.1 b1.2 b2.1 (by omega) ?_
  cases h : digitsB a0.data.toList
  · exact .inl rfl
  · exact .inr ⟨rfl, apart h⟩

/-! ### THE ROW's STEP: WRITTEN OUT: LEAVE IT -/
set_option maxRecDepth 100000 in
theorem lifted (os : Os) (started : os.Started) (H : Type) (enc : TypeId × Value → H) :
    ReturnsInHanded {} Try.checked os 5 .any (Rows.fnDigitsAndCodesApartSpec.pre6 enc Try.prog Try.f5 Rows.fnDigitsAndCodesApartRow.domain false) (Rows.fnDigitsAndCodesApartSpec.post enc Try.prog Try.f5 false true false false) := by
  refine returnsInHanded_of_change (C := Try.checked) own started (by kernel_rfl) Try.func5
    (ChangeSpec.witness6 (enc := enc) (C := Try.checked) false ⟨#[], #[.string ByteArray.empty, .int .u64 0, .int .u32 0], []⟩ 8 (by kernel_rfl) (by kernel_rfl) (by kernel_rfl) (by kernel_rfl)) ?_
  intro W base args ds gs before hval0 hW hcnd _
  have hval : ∀ (j : Nat) t v, Try.f5.params[j]? = some t → args[j]? = some v → Value.okWide Try.prog W .any base t v := hval0
  have hW' := hW
  obtain ⟨p, q, hA0, hV, rfl, hfz, hnd⟩ := hW
  have hA : DataW.TrodAll enc Try.prog W 0 (fun _ => true) true Try.f5.params.toList args.toList ds p := hA0
  rw [Try.params5] at hA hval
  obtain ⟨v0, vs0, d0, ds0, p0, q0, hargs, rfl, rfl, h0, r0⟩ := trodAll_cons hA
  obtain ⟨v1, vs1, d1, ds1, p1, q1, rfl, rfl, rfl, h1, r1⟩ := trodAll_cons r0
  obtain ⟨v2, vs2, d2, ds2, p2, q2, rfl, rfl, rfl, h2, r2⟩ := trodAll_cons r1
  obtain ⟨rfl, rfl, rfl⟩ := trodAll_nil r2
  obtain rfl : args = #[v0, v1, v2] := by cases args; simp_all
  obtain ⟨rfl, rfl⟩ := trodVars_none hV
  obtain ⟨a0, rfl, rfl, rfl, w0⟩ := open_string Try.underlying9 (hval 0 9 v0 rfl rfl) h0
  obtain ⟨a1, rfl, rfl, rfl, w1⟩ := open_int Try.underlying28 (hval 1 28 v1 rfl rfl) h1
  obtain ⟨a2, rfl, rfl, rfl, w2⟩ := open_int Try.underlying25 (hval 2 25 v2 rfl rfl) h2
  clear hA0 hval0
  simp only [List.append_nil] at hW'
  refine (walk a0 a1 a2 w0 w1 w2 W).mono fun e W' ⟨he, hg⟩ => ?_
  subst he
  exact ⟨_, rfl, post_of_same (pa := []) (pv := []) hW' (fun _ _ _ => (trodAll_cons_mk (shut_bool Try.underlying4 _) trodAll_mk0)) (fun sp _ => (trodAll_cons_mk (shut_string Try.underlying9 w0) (trodAll_cons_mk (shut_int Try.underlying28 w1) (trodAll_cons_mk (shut_int Try.underlying25 w2) trodAll_mk0)))) (fun _ _ => rfl) rfl
    (hg.frame _) hg.2.1 (ok_one (by kernel_rfl) rfl (okWide_bool_mk Try.underlying4 _))⟩

theorem over : Rows.fnDigitsAndCodesApartRow.holds Try.pinned (OpenSpec.ofChange Rows.fnDigitsAndCodesApartSpec) :=
  OpenClaim.holds_of_wide 5 Try.f5 rfl rfl rfl rfl rfl rfl rfl ⟨rfl, rfl, rfl, rfl, rfl⟩ rfl rfl rfl rfl rfl (by kernel_rfl) Try.func5 (by kernel_rfl)
    (of_decide_eq_true (by kernel_rfl)) (by unfold Func.isWrapper; first | (rw [if_pos (by decide +kernel)]; kernel_rfl) | (rw [if_neg (by decide +kernel)]; exact ⟨rfl, rfl⟩))
    (fun os started H enc _ => lifted os started H enc)

/-- THE STATEMENT -/
theorem proved : Rows.FnDigitsAndCodesApartSaid :=
  over
#print axioms proved
end Go.Proofs.Qxb6619123a.fnDigitsAndCodesApart
