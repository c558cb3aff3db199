/-
  A proof of 'Rows.FnIsLoadOnlyFourOneByteWordsSaid': for every string the law returns true.
  The frame (own, lifted, over, proved) was written by the kit's proof-skeleton for this function; the lemmas and the walk are the prover's.
-/
import Derived.Test.Qxb6618869aRows
import Derived.WalkKit
import Derived.ProofKit
import Derived.OpenShut
import Derived.ShutString
import Derived.Laws.BytesArg
namespace Go.Proofs.Qxb6618869a.fnIsLoadOnlyFourOneByteWords
open Go.ChangeShapes Go.WideShapes Go.ChangeAt Go.RowKit
open Go.ChangeMaps (open_string shut_string)
set_option linter.unusedVariables false      -- a walk need not use every 'w<i>' (that an integer argument fits its kind)

theorem own : ownKnob Try.prog.godebug = none := by kernel_rfl

/-- the plain function: is the text one of the four? -/
def ldB (l : List UInt8) : Bool := l == [116] || l == [84] || l == [113] || l == [102]

theorem ret_bool {a b : Bool} (h : a = b) : Ending.returned (.bool a) = .returned (.bool b) := by rw [h]

theorem ld_116 {l : List UInt8} (h : l = [116]) : true = ldB l := by subst h; decide
theorem ld_84 {l : List UInt8} (h : l = [84]) : true = ldB l := by subst h; decide
theorem ld_113 {l : List UInt8} (h : l = [113]) : true = ldB l := by subst h; decide

set_option maxHeartbeats 400000 in
theorem isLoad_any (s : ByteArray) (w : World) :
    Calls Try.prog 6 #[.string s] w fun e w' => e = .returned (.bool (ldB s.toList)) ∧ w = w' := by
  go_enter Try.func6, Try.ntmps6
  go_wp2
  · go_ret
    exact ⟨ret_bool (ld_116 ‹_›), rfl⟩
  · go_ret
    exact ⟨ret_bool (ld_84 ‹_›), rfl⟩
  · go_ret
    exact ⟨ret_bool (ld_113 ‹_›), rfl⟩
  · go_ret
    exact ⟨rfl, rfl⟩

theorem zzIsLoad_any (s : ByteArray) (w : World) :
    Calls Try.prog 5 #[.string s] w fun e w' => e = .returned (.bool (ldB s.toList)) ∧ w = w' := by
  go_enter Try.func5, Try.ntmps5
  go_wp2_with (go_at_call 6; refine (isLoad_any _ _).mono ?_; rintro e w' ⟨rfl, rfl⟩)
  go_ret
  exact ⟨rfl, rfl⟩

theorem zzBytes_yes (s : ByteArray) (w : World) (h : s.size ≤ 1048576) :
    Calls Try.prog 4 #[.string s] w fun e w' => e = .returned (.bool true) ∧ w = w' := by
  go_enter Try.func4, Try.ntmps4
  go_wp2
  go_ret
  exact ⟨rfl, rfl⟩

theorem zzBytes_no (s : ByteArray) (w : World) (h : 1048576 < s.size) :
    Calls Try.prog 4 #[.string s] w fun e w' => e = .returned (.bool false) ∧ w = w' := by
  go_enter Try.func4, Try.ntmps4
  go_wp2
  go_ret
  exact ⟨rfl, rfl⟩

/-- is the one-byte text of the number k a load? -/
def one (k : Nat) : Bool := ldB [UInt8.ofNat k]
/-- how many of the first k one-byte texts are loads -/
def cnt : Nat → Nat
  | 0 => 0
  | k + 1 => cnt k + if one k then 1 else 0
theorem cnt_256 : cnt 256 = 4 := by decide +kernel
theorem cnt_le : ∀ k, cnt k ≤ k
  | 0 => Nat.le_refl _
  | k + 1 => by have := cnt_le k; unfold cnt; split <;> omega
theorem cnt_yes {k : Nat} (h : one k = true) : cnt (k + 1) = cnt k + 1 := by simp [cnt, h]
theorem cnt_no {k : Nat} (h : one k = false) : cnt (k + 1) = cnt k := by simp [cnt, h]

theorem one_eq (k : Nat) : ldB (strOfNums [(k : Int)]).toList = one k := by
  rw [ByteArray.toList_eq, strOfNums_data]; simp [one]

/-- 'string([]byte{byte(c)})' -/
theorem conv_one (k : Nat) (w : World) :
    (convert 23 9 (.slice (some ⟨w.heap.size, 0, none⟩) 1 1)).run Try.prog (w.alloc (.cells #[.int .u8 (k : Int)] 5)) = .ok (.string (strOfNums [(k : Int)])) (w.alloc (.cells #[.int .u8 (k : Int)] 5)) := by
  refine run_convert_bytes_arg _ 23 5 Try.underlying23 Try.underlying5 w.heap.size 0 1 1 [(k : Int)] rfl ?_ 9 Try.underlying9
  intro i hi
  obtain rfl : i = 0 := by omega
  simp [World.cell?_alloc_new]

theorem ld_size (s : ByteArray) (h : ldB s.toList = true) : ((s.size : Int) != 1) = false := by
  have hl : s.toList.length = 1 := by
    simp only [ldB, Bool.or_eq_true, beq_iff_eq] at h
    rcases h with ((h | h) | h) | h <;> rw [h] <;> rfl
  have : s.size = 1 := by rw [ByteArray.toList_eq] at hl; simpa using hl
  simp [this]

set_option maxRecDepth 100000 in
theorem walk (a0 : ByteArray) (w0 : a0.size ≤ maxLen) (w : World) :
    Calls Try.prog 3 #[.string a0] w fun e w' => e = .returned (.bool true) ∧ Grown w w' := by
  unfold maxLen at w0
  by_cases h1 : 1048576 < a0.size
  · go_enter Try.func3, Try.ntmps3
    go_wp2_with (go_at_call 4; refine (zzBytes_no _ _ h1).mono ?_; rintro e w' ⟨rfl, rfl⟩)
    go_ret
    exact ⟨rfl, Grown.refl _⟩
  by_cases h2 : 65536 < a0.size
  · go_enter Try.func3, Try.ntmps3
    go_wp2_with (go_at_call 4; refine (zzBytes_yes _ _ (by omega)).mono ?_; rintro e w' ⟨rfl, rfl⟩)
    go_ret
    exact ⟨rfl, Grown.refl _⟩
  have loads : ldB a0.toList = false ∨ (ldB a0.toList = true ∧ ((a0.size : Int) != 1) = false) := by
    cases hl : ldB a0.toList
    · exact .inl rfl
    · exact .inr ⟨rfl, ld_size a0 hl⟩
  rcases loads with hl | ⟨hl, hs⟩
  all_goals
    go_enter Try.func3, Try.ntmps3
    go_wp2_with (first | (go_at_call 4; refine (zzBytes_yes _ _ (by omega)).mono ?_; rintro e w' ⟨rfl, rfl⟩) | (go_at_call 5; refine (zzIsLoad_any _ _).mono ?_; rintro e w' ⟨rfl, rfl⟩))
    go_loopw [4, 5] (fun n c wr => ∃ k : Nat, k ≤ 256 ∧ c = .int .i64 k ∧ n = .int .i64 (cnt k) ∧ Grown w wr) (fun _ i _ => 256 - (intOf i).toNat)
    case atStart => exact ⟨0, Nat.zero_le _, rfl, rfl, Grown.refl _⟩
    case round =>
      obtain ⟨k, hk, rfl, rfl, hg⟩ := hrel
      have hc := conv_one k wr
      have hcl := cnt_le k
      by_cases hlt : k < 256
      · cases ho : one k
        · go_wp2_with (first | (go_at_call 5; refine (zzIsLoad_any _ _).mono ?_; rw [one_eq]; rintro e w' ⟨rfl, rfl⟩))
          go_roundw
          case rel => exact ⟨k + 1, by omega, by go_num, by rw [cnt_no ho], hg.alloc _ _⟩
          case measure => simp [intOf]; omega
        · go_wp2_with (first | (go_at_call 5; refine (zzIsLoad_any _ _).mono ?_; rw [one_eq]; rintro e w' ⟨rfl, rfl⟩))
          go_roundw
          case rel => exact ⟨k + 1, by omega, by go_num, by rw [cnt_yes ho]; go_num, hg.alloc _ _⟩
          case measure => simp [intOf]; omega
      · obtain rfl : k = 256 := by omega
        have h4 : ((cnt 256 : Int) == 4) = true := by rw [cnt_256]; rfl
        clear hc hcl
        go_wp2
        go_ret
        exact ⟨rfl, hg⟩

/-! ### THE ROW's STEP: WRITTEN OUT: LEAVE IT -/
set_option maxRecDepth 100000 in
theorem lifted (os : Os) (started : os.Started) (H : Type) (enc : TypeId × Value → H) :
    ReturnsInHanded {} Try.checked os 3 .any (Rows.fnIsLoadOnlyFourOneByteWordsSpec.pre6 enc Try.prog Try.f3 Rows.fnIsLoadOnlyFourOneByteWordsRow.domain false) (Rows.fnIsLoadOnlyFourOneByteWordsSpec.post enc Try.prog Try.f3 false true false false) := by
  refine returnsInHanded_of_change (C := Try.checked) own started (by kernel_rfl) Try.func3
    (ChangeSpec.witness6 (enc := enc) (C := Try.checked) false ⟨#[], #[.string ByteArray.empty], []⟩ 8 (by kernel_rfl) (by kernel_rfl) (by kernel_rfl) (by kernel_rfl)) ?_
  intro W base args ds gs before hval0 hW hcnd _
  have hval : ∀ (j : Nat) t v, Try.f3.params[j]? = some t → args[j]? = some v → Value.okWide Try.prog W .any base t v := hval0
  have hW' := hW
  obtain ⟨p, q, hA0, hV, rfl, hfz, hnd⟩ := hW
  have hA : DataW.TrodAll enc Try.prog W 0 (fun _ => true) true Try.f3.params.toList args.toList ds p := hA0
  rw [Try.params3] at hA hval
  obtain ⟨v0, vs0, d0, ds0, p0, q0, hargs, rfl, rfl, h0, r0⟩ := trodAll_cons hA
  obtain ⟨rfl, rfl, rfl⟩ := trodAll_nil r0
  obtain rfl : args = #[v0] := by cases args; simp_all
  obtain ⟨rfl, rfl⟩ := trodVars_none hV
  obtain ⟨a0, rfl, rfl, rfl, w0⟩ := open_string Try.underlying9 (hval 0 9 v0 rfl rfl) h0
  clear hA0 hval0
  simp only [List.append_nil] at hW'
  refine (walk a0 w0 W).mono fun e W' ⟨he, hg⟩ => ?_
  subst he
  exact ⟨_, rfl, post_of_same (pa := []) (pv := []) hW' (fun _ _ _ => (trodAll_cons_mk (shut_bool Try.underlying4 _) trodAll_mk0)) (fun sp _ => (trodAll_cons_mk (shut_string Try.underlying9 w0) trodAll_mk0)) (fun _ _ => rfl) rfl
    (hg.frame _) hg.2.1 (ok_one (by kernel_rfl) rfl (okWide_bool_mk Try.underlying4 _))⟩

theorem over : Rows.fnIsLoadOnlyFourOneByteWordsRow.holds Try.pinned (OpenSpec.ofChange Rows.fnIsLoadOnlyFourOneByteWordsSpec) :=
  OpenClaim.holds_of_wide 3 Try.f3 rfl rfl rfl rfl rfl rfl rfl ⟨rfl, rfl, rfl, rfl, rfl⟩ rfl rfl rfl rfl rfl (by kernel_rfl) Try.func3 (by kernel_rfl)
    (of_decide_eq_true (by kernel_rfl)) (by unfold Func.isWrapper; first | (rw [if_pos (by decide +kernel)]; kernel_rfl) | (rw [if_neg (by decide +kernel)]; exact ⟨rfl, rfl⟩))
    (fun os started H enc _ => lifted os started H enc)

/-- THE STATEMENT -/
theorem proved : Rows.FnIsLoadOnlyFourOneByteWordsSaid :=
  over
#print axioms proved
end Go.Proofs.Qxb6618869a.fnIsLoadOnlyFourOneByteWords
