import Derived.Test.Qxb6619123aRows
import Derived.WalkKit
import Derived.ProofKit
import Derived.OpenShut
import Derived.ShutString
import Derived.WalkSpells
import Derived.Laws.BytesArg
namespace Go.Proofs.Qxb6619123a.parts
open Go.ChangeShapes Go.WideShapes Go.ChangeAt Go.RowKit
set_option linter.unusedVariables false

/-! ### THE PLAIN FUNCTIONS -/
def dig (c : UInt8) : Bool := decide (48 ≤ c.toNat) && decide (c.toNat ≤ 57)
def ltr (c : UInt8) : Bool := decide (65 ≤ c.toNat) && decide (c.toNat ≤ 90)
/-- one or more digits -/
def digitsB (l : List UInt8) : Bool := l.all dig && !l.isEmpty
/-- three letters -/
def codeB (l : List UInt8) : Bool := (l.length == 3) && l.all ltr

theorem ret_bool {a b : Bool} (h : a = b) : Ending.returned (.bool a) = .returned (.bool b) := by rw [h]
theorem byte_eq (s : ByteArray) (k : Nat) (h : k < s.size) : s.data.toList[k]'(by simpa using h) = s[k] := rfl

theorem all_snoc (p : UInt8 → Bool) (s : ByteArray) (k : Nat) (h : k < s.size) (ha : (s.data.toList.take k).all p = true) (hc : p s[k] = true) : (s.data.toList.take (k + 1)).all p = true := by
  rw [List.take_succ_eq_append_getElem (by simpa using h), List.all_append, ha]
  show (true && ([s.data.toList[k]'(by simpa using h)]).all p) = true
  rw [byte_eq s k h]; simp [hc]
theorem all_false (p : UInt8 → Bool) (s : ByteArray) (k : Nat) (h : k < s.size) (hc : p s[k] = false) : s.data.toList.all p = false := by
  rw [Bool.eq_false_iff]
  intro hall
  rw [List.all_eq_true] at hall
  have := hall s[k] (by rw [← byte_eq s k h]; exact List.getElem_mem _)
  rw [hc] at this
  cases this

theorem dig_yes {c : UInt8} (h : 48 ≤ (c.toNat : Int) ∧ (c.toNat : Int) ≤ 57) : dig c = true := by
  simp [dig]; omega
theorem dig_no {c : UInt8} (h : ¬ (48 ≤ (c.toNat : Int) ∧ (c.toNat : Int) ≤ 57)) : dig c = false := by
  rw [Bool.eq_false_iff]; intro e; simp [dig] at e; omega
theorem let_yes {c : UInt8} (h : 65 ≤ (c.toNat : Int) ∧ (c.toNat : Int) ≤ 90) : ltr c = true := by
  simp [ltr]; omega
theorem let_no {c : UInt8} (h : ¬ (65 ≤ (c.toNat : Int) ∧ (c.toNat : Int) ≤ 90)) : ltr c = false := by
  rw [Bool.eq_false_iff]; intro e; simp [ltr] at e; omega
theorem digits_stop {s : ByteArray} {k : Nat} (h : k < s.size) (hc : dig s[k] = false) : false = digitsB s.data.toList := by
  simp [digitsB, all_false dig s k h hc]
theorem digits_end {s : ByteArray} {k : Nat} (h : ¬ k < s.size) (ha : (s.data.toList.take k).all dig = true) : (!s.toList.isEmpty) = digitsB s.data.toList := by
  rw [List.take_of_length_le (by simp; omega)] at ha
  rw [ByteArray.toList_eq, digitsB, ha]; simp
theorem code_stop {s : ByteArray} {k : Nat} (h : k < s.size) (hc : ltr s[k] = false) : false = codeB s.data.toList := by
  simp [codeB, all_false ltr s k h hc]
theorem code_end {s : ByteArray} {k : Nat} (h3 : s.size = 3) (h : ¬ k < s.size) (ha : (s.data.toList.take k).all ltr = true) : true = codeB s.data.toList := by
  rw [List.take_of_length_le (by simp; omega)] at ha
  rw [codeB, ha]; simp [h3]
theorem code_len {s : ByteArray} (h3 : s.size ≠ 3) : false = codeB s.data.toList := by
  simp [codeB]; intro h; exact absurd h h3

theorem isDigits_any (s : ByteArray) (w : World) (hs : s.size ≤ 4000000) :
    Calls Try.prog 16 #[.string s] w fun e w' => e = .returned (.bool (digitsB s.data.toList)) ∧ w = w' := by
  go_enter Try.func16, Try.ntmps16
  go_wp2
  go_loop [3] (fun i => ∃ k : Nat, k ≤ s.size ∧ i = .int .i64 k ∧ (s.data.toList.take k).all dig = true) (fun i => s.size - (intOf i).toNat)
  case atStart => exact ⟨0, Nat.zero_le _, rfl, rfl⟩
  case round =>
    obtain ⟨k, hk, rfl, ha⟩ := hrel
    have HA : Hid ((s.data.toList.take k).all dig = true) := ha
    clear ha
    by_cases hlt : k < s.size
    · go_wp2
      · go_ret
        exact ⟨ret_bool (digits_stop hlt (dig_no (by omega))), rfl⟩
      · go_round
        case rel => exact ⟨k + 1, by omega, by go_num, all_snoc dig s k hlt HA.out (dig_yes (by omega))⟩
        case measure => simp [intOf]; omega
      · go_ret
        exact ⟨ret_bool (digits_stop hlt (dig_no (by omega))), rfl⟩
    · go_wp2
      go_ret
      exact ⟨ret_bool (digits_end hlt HA.out), rfl⟩

theorem zzIsDigits_any (s : ByteArray) (w : World) (hs : s.size ≤ 4000000) :
    Calls Try.prog 7 #[.string s] w fun e w' => e = .returned (.bool (digitsB s.data.toList)) ∧ w = w' := by
  go_enter Try.func7, Try.ntmps7
  go_wp2_with (go_at_call 16; refine (isDigits_any _ _ hs).mono ?_; rintro e w' ⟨rfl, rfl⟩)
  go_ret
  exact ⟨rfl, rfl⟩

theorem isCode_any (s : ByteArray) (w : World) (hs : s.size ≤ 4000000) :
    Calls Try.prog 17 #[.string s] w fun e w' => e = .returned (.bool (codeB s.data.toList)) ∧ w = w' := by
  by_cases h3 : s.size = 3
  · have h3' : ((s.size : Int) != 3) = false := by simp [h3]
    have H3 : Hid (s.size = 3) := h3
    clear h3
    go_enter Try.func17, Try.ntmps17
    go_wp2
    go_loop [3] (fun i => ∃ k : Nat, k ≤ s.size ∧ i = .int .i64 k ∧ (s.data.toList.take k).all ltr = true) (fun i => s.size - (intOf i).toNat)
    case atStart => exact ⟨0, Nat.zero_le _, rfl, rfl⟩
    case round =>
      obtain ⟨k, hk, rfl, ha⟩ := hrel
      have HA : Hid ((s.data.toList.take k).all ltr = true) := ha
      clear ha
      by_cases hlt : k < s.size
      · go_wp2
        · go_ret
          exact ⟨ret_bool (code_stop hlt (let_no (by omega))), rfl⟩
        · go_round
          case rel => exact ⟨k + 1, by omega, by go_num, all_snoc ltr s k hlt HA.out (let_yes (by omega))⟩
          case measure => simp [intOf]; omega
        · go_ret
          exact ⟨ret_bool (code_stop hlt (let_no (by omega))), rfl⟩
      · go_wp2
        go_ret
        exact ⟨ret_bool (code_end H3.out hlt HA.out), rfl⟩
  · have h3' : ((s.size : Int) != 3) = true := by simp; omega
    go_enter Try.func17, Try.ntmps17
    go_wp2
    go_ret
    exact ⟨ret_bool (code_len h3), rfl⟩

theorem zzIsCode_any (s : ByteArray) (w : World) (hs : s.size ≤ 4000000) :
    Calls Try.prog 12 #[.string s] w fun e w' => e = .returned (.bool (codeB s.data.toList)) ∧ w = w' := by
  go_enter Try.func12, Try.ntmps12
  go_wp2_with (go_at_call 17; refine (isCode_any _ _ hs).mono ?_; rintro e w' ⟨rfl, rfl⟩)
  go_ret
  exact ⟨rfl, rfl⟩

/-- empty, or all digits -/
def eodB (l : List UInt8) : Bool := l.isEmpty || digitsB l
theorem eod_any (s : ByteArray) (w : World) (hs : s.size ≤ 4000000) :
    Calls Try.prog 8 #[.string s] w fun e w' => e = .returned (.bool (eodB s.data.toList)) ∧ w = w' := by
  cases he : s.toList.isEmpty
  all_goals
    have he' := he
    rw [ByteArray.toList_eq] at he'
    have HE : Hid _ := he'
    clear he'
    go_enter Try.func8, Try.ntmps8
    go_wp2_with (go_at_call 7; refine (zzIsDigits_any _ _ hs).mono ?_; rintro e w' ⟨rfl, rfl⟩)
    go_ret
    exact ⟨ret_bool (by simp [eodB, HE.out]), rfl⟩
