/-
  A proof of 'Rows.FnIsAlphabeticCodeIsBase26ImageSaid': for every string and every uint32 the law returns true.
  The frame (own, lifted, over, proved) was written by the kit's proof-skeleton for this function; the lemmas and the walk are the prover's.
-/
import Derived.Test.Qxb6619123aRows
import Derived.WalkKit
import Derived.ProofKit
import Derived.OpenShut
import Derived.ShutString
import Derived.Test.Qxb6619123aNumerals
namespace Go.Proofs.Qxb6619123a.fnIsAlphabeticCodeIsBase26Image
open Go.ChangeShapes Go.WideShapes Go.ChangeAt Go.RowKit
open Go.ChangeMaps (open_string shut_string)
set_option linter.unusedVariables false      -- a walk need not use every 'w<i>' (that an integer argument fits its kind)

theorem own : ownKnob Try.prog.godebug = none := by kernel_rfl

open parts

theorem bytes_yes (s : ByteArray) (k : Int) (w : World) (h : s.size ≤ 1048576) :
    Calls Try.prog 10 #[.string s, .int .u32 k] w fun e w' => e = .returned (.bool true) ∧ w = w' := by
  go_enter Try.func10, Try.ntmps10
  go_wp2
  go_ret
  exact ⟨rfl, rfl⟩
theorem bytes_no (s : ByteArray) (k : Int) (w : World) (h : 1048576 < s.size) :
    Calls Try.prog 10 #[.string s, .int .u32 k] w fun e w' => e = .returned (.bool false) ∧ w = w' := by
  go_enter Try.func10, Try.ntmps10
  go_wp2
  go_ret
  exact ⟨rfl, rfl⟩

/-! ### THE WALK -/
set_option maxHeartbeats 1000000 in
set_option maxRecDepth 100000 in
theorem core (s : ByteArray) (k : Int) (w : World) (hs : s.size ≤ 1048576) (h0 : 0 ≤ k) (hk : k < 17576) :
    Calls Try.prog 4 #[.string s, .int .u32 k] w fun e w' => e = .returned (.bool true) ∧ Grown w w' := by
  have hg : Grown w w := Grown.refl w
  go_enter Try.func4, Try.ntmps4
  go_wp2_with (first
    | (go_at_call 10; refine (bytes_yes _ _ _ hs).mono ?_; rintro e w' ⟨rfl, rfl⟩)
    | (go_at_call 11; refine (code_from w _ _ h0 hk hg).mono ?_; rintro e w1 ⟨c, rfl, hc3, hcc, hg1⟩; have hj := code_behind s c hc3 hcc; rw [cat_data] at hj; clear hg))
  go_wp2_with (first
    | (go_at_call 12; refine (zzIsCode_any _ _ (by first | omega | (rw [cat_size]; omega))).mono ?_; rintro e w' ⟨rfl, rfl⟩)
    | (go_at_call 13; refine (image_from w _ _ (by omega) (by assumption)).mono ?_; clear hg1; rintro e w2 ⟨rfl, hg2⟩))
  go_ret
  exact ⟨rfl, by assumption⟩

theorem walk (a0 : ByteArray) (a1 : Int) (w0 : a0.size ≤ maxLen) (w1 : (Lit.int .u32 a1).wf = true) (w : World) :
    Calls Try.prog 4 #[.string a0, .int .u32 a1] w fun e w' => e = .returned (.bool true) ∧ Grown w w' := by
  unfold maxLen at w0
  have b1 := bounds_u32 w1
  by_cases c1 : 1048576 < a0.size
  · go_enter Try.func4, Try.ntmps4
    go_wp2_with (go_at_call 10; refine (bytes_no _ _ _ c1).mono ?_; rintro e w' ⟨rfl, rfl⟩)
    go_ret
    exact ⟨rfl, Grown.refl _⟩
  by_cases c2 : 17576 ≤ a1
  · go_enter Try.func4, Try.ntmps4
    go_wp2_with (go_at_call 10; refine (bytes_yes _ _ _ (by omega)).mono ?_; rintro e w' ⟨rfl, rfl⟩)
    go_ret
    exact ⟨rfl, Grown.refl _⟩
  exact core a0 a1 w (by omega) b1.1 (by omega)

/-! ### THE ROW's STEP: WRITTEN OUT: LEAVE IT -/
set_option maxRecDepth 100000 in
theorem lifted (os : Os) (started : os.Started) (H : Type) (enc : TypeId × Value → H) :
    ReturnsInHanded {} Try.checked os 4 .any (Rows.fnIsAlphabeticCodeIsBase26ImageSpec.pre6 enc Try.prog Try.f4 Rows.fnIsAlphabeticCodeIsBase26ImageRow.domain false) (Rows.fnIsAlphabeticCodeIsBase26ImageSpec.post enc Try.prog Try.f4 false true false false) := by
  refine returnsInHanded_of_change (C := Try.checked) own started (by kernel_rfl) Try.func4
    (ChangeSpec.witness6 (enc := enc) (C := Try.checked) false ⟨#[], #[.string ByteArray.empty, .int .u32 0], []⟩ 8 (by kernel_rfl) (by kernel_rfl) (by kernel_rfl) (by kernel_rfl)) ?_
  intro W base args ds gs before hval0 hW hcnd _
  have hval : ∀ (j : Nat) t v, Try.f4.params[j]? = some t → args[j]? = some v → Value.okWide Try.prog W .any base t v := hval0
  have hW' := hW
  obtain ⟨p, q, hA0, hV, rfl, hfz, hnd⟩ := hW
  have hA : DataW.TrodAll enc Try.prog W 0 (fun _ => true) true Try.f4.params.toList args.toList ds p := hA0
  rw [Try.params4] at hA hval
  obtain ⟨v0, vs0, d0, ds0, p0, q0, hargs, rfl, rfl, h0, r0⟩ := trodAll_cons hA
  obtain ⟨v1, vs1, d1, ds1, p1, q1, rfl, rfl, rfl, h1, r1⟩ := trodAll_cons r0
  obtain ⟨rfl, rfl, rfl⟩ := trodAll_nil r1
  obtain rfl : args = #[v0, v1] := by cases args; simp_all
  obtain ⟨rfl, rfl⟩ := trodVars_none hV
  obtain ⟨a0, rfl, rfl, rfl, w0⟩ := open_string Try.underlying9 (hval 0 9 v0 rfl rfl) h0
  obtain ⟨a1, rfl, rfl, rfl, w1⟩ := open_int Try.underlying25 (hval 1 25 v1 rfl rfl) h1
  clear hA0 hval0
  simp only [List.append_nil] at hW'
  refine (walk a0 a1 w0 w1 W).mono fun e W' ⟨he, hg⟩ => ?_
  subst he
  exact ⟨_, rfl, post_of_same (pa := []) (pv := []) hW' (fun _ _ _ => (trodAll_cons_mk (shut_bool Try.underlying4 _) trodAll_mk0)) (fun sp _ => (trodAll_cons_mk (shut_string Try.underlying9 w0) (trodAll_cons_mk (shut_int Try.underlying25 w1) trodAll_mk0))) (fun _ _ => rfl) rfl
    (hg.frame _) hg.2.1 (ok_one (by kernel_rfl) rfl (okWide_bool_mk Try.underlying4 _))⟩

theorem over : Rows.fnIsAlphabeticCodeIsBase26ImageRow.holds Try.pinned (OpenSpec.ofChange Rows.fnIsAlphabeticCodeIsBase26ImageSpec) :=
  OpenClaim.holds_of_wide 4 Try.f4 rfl rfl rfl rfl rfl rfl rfl ⟨rfl, rfl, rfl, rfl, rfl⟩ rfl rfl rfl rfl rfl (by kernel_rfl) Try.func4 (by kernel_rfl)
    (of_decide_eq_true (by kernel_rfl)) (by unfold Func.isWrapper; first | (rw [if_pos (by decide +kernel)]; kernel_rfl) | (rw [if_neg (by decide +kernel)]; exact ⟨rfl, rfl⟩))
    (fun os started H enc _ => lifted os started H enc)

/-- THE STATEMENT -/
theorem proved : Rows.FnIsAlphabeticCodeIsBase26ImageSaid :=
  over
#print axioms proved
end Go.Proofs.Qxb6619123a.fnIsAlphabeticCodeIsBase26Image
