/-
  A proof of 'Rows.FnSwapOnceExchangesTwiceRestoresSaid': for every two slices and two ints the law returns true, and nothing that was there is written.
  The frame (own, lifted, over, proved) was written by the kit's proof-skeleton for this function; the lemmas and the walk are the prover's.
-/
import Derived.Test.Qxb6618956aRows
import Derived.WalkKit
import Derived.ProofKit
import Derived.OpenShut
import Derived.ShutString
import Derived.ChangeOld
import Derived.Below
import Derived.Test.Qxb6618956aCopies
namespace Go.Proofs.Qxb6618956a.fnSwapOnceExchangesTwiceRestores
open Go.ChangeShapes Go.WideShapes Go.ChangeAt Go.RowKit
open Go.ChangeMaps (open_string shut_string)
set_option linter.unusedVariables false

theorem own : ownKnob Try.prog.godebug = none := by kernel_rfl
theorem laidOut : laidOutB Try.prog = true := by kernel_rfl

/-- WHAT THE WALK IS TOLD OF A SLICE OF INTEGERS THAT CAME IN: it is nil; or it leads to a row of 'cap' cells, the numbers 'zs' (the first 'len' are its elements, the rest its spare room), each fitting its kind. -/
def IsRow (k : IntKind) (w : World) (a : Option Addr) (len cap : Nat) (zs : List Int) : Prop :=
  (a = none ∧ len = 0 ∧ cap = 0 ∧ zs = []) ∨
  ∃ x, a = some x ∧ len ≤ cap ∧ cap ≤ maxLen ∧ zs.length = cap ∧ (∀ i, i < zs.length → w.cell? (x.add i) = some (.int k (zs.getD i 0))) ∧ ∀ n ∈ zs, (Lit.int k n).wf = true

open waiters

theorem hide {p : Prop} (h : p) : Hid p := h
theorem below_drawn {B : Nat} {a w : World} (h : Below B a w) (n : Nat) : Below B a (w.drewN n) := h.trans ⟨rfl, rfl, rfl, Nat.le_refl _, fun _ _ => rfl⟩

/-! ### THE PLAIN LAW: where the waiters stand behind one and behind two exchanges -/
/-- the place whose waiter stands at k behind Swap(i, j) -/
def src (i j k : Nat) : Nat := if k = i then j else if k = j then i else k
def π1 (i j : Nat) : Nat → Nat := swapπ (fun k => k) i j
def I1 (i j : Nat) : Nat → Int := swapI (fun k => (k : Int)) (fun k => k) i j
def π2 (i j : Nat) : Nat → Nat := swapπ (π1 i j) i j
def I2 (i j : Nat) : Nat → Int := swapI (I1 i j) (π1 i j) i j

theorem π1_eq (i j k : Nat) : π1 i j k = src i j k := by
  unfold π1 swapπ src; dsimp only; (repeat' split) <;> omega
theorem I1_eq (i j k : Nat) : I1 i j (src i j k) = (k : Int) := by
  unfold I1 swapI src; dsimp only; (repeat' split) <;> omega
theorem src_i (i j : Nat) : src i j i = j := by simp [src]
theorem src_j (i j : Nat) : src i j j = i := by unfold src; (repeat' split) <;> omega
theorem π2_eq (i j k : Nat) : π2 i j k = k := by
  unfold π2 swapπ; simp only [π1_eq, src_i, src_j]; unfold src; (repeat' split) <;> omega
theorem I2_eq (i j k : Nat) : I2 i j k = (k : Int) := by
  unfold I2 swapI; simp only [π1_eq, src_i, src_j]; unfold I1 swapI; dsimp only; (repeat' split) <;> omega
theorem src_lt {i j k n : Nat} (hi : i < n) (hj : j < n) (hk : k < n) : src i j k < n := by
  unfold src; (repeat' split) <;> omega
theorem src_ne {i j : Nat} (h : i ≠ j) : π1 i j i ≠ π1 i j j := by
  simp only [π1_eq, src_i, src_j]; omega

theorem first_at {w4 : World} {B n i j : Nat} {P A : Nat → Int} (hQ : Queue w4 B n (π1 i j) (I1 i j) P A) (hn : n ≤ 65536) (hi : i < n) (hj : j < n) (k : Nat) (hk : k < n) (m : Nat) :
    Calls Try.prog 15 #[.slice (some ⟨B, 0, none⟩) n n, .int .i64 (k : Int)] (w4.drewN m) fun e w' =>
      e = .returned (.tuple #[.int .i64 (P (src i j k)), .int .u64 (A (src i j k)), .int .i64 (k : Int)]) ∧ ∃ m', w' = (w4.drewN m).drewN m' := by
  have h := at_any (w4.drewN m) B n _ _ P A (queue_alike hQ rfl) hn k hk (by rw [π1_eq]; exact src_lt hi hj hk)
  rw [π1_eq, I1_eq] at h
  exact h
theorem second_at {w4 : World} {B n i j : Nat} {P A : Nat → Int} (hQ : Queue w4 B n (π2 i j) (I2 i j) P A) (hn : n ≤ 65536) (k : Nat) (hk : k < n) (m : Nat) :
    Calls Try.prog 15 #[.slice (some ⟨B, 0, none⟩) n n, .int .i64 (k : Int)] (w4.drewN m) fun e w' =>
      e = .returned (.tuple #[.int .i64 (P k), .int .u64 (A k), .int .i64 (k : Int)]) ∧ ∃ m', w' = (w4.drewN m).drewN m' := by
  have h := at_any (w4.drewN m) B n _ _ P A (queue_alike hQ rfl) hn k hk (by rw [π2_eq]; exact hk)
  rw [π2_eq, I2_eq] at h
  exact h

set_option maxHeartbeats 1000000 in
set_option maxRecDepth 100000 in
theorem core (w : World) (x0 x1 : Addr) (n c0 c1 i j : Nat) (P A : Nat → Int) (hi : i < n) (hj : j < n) (hn : n ≤ 65536)
    (h0 : ∀ i, i < n → w.cell? (x0.add i) = some (.int .i64 (P i))) (h1 : ∀ i, i < n → w.cell? (x1.add i) = some (.int .u64 (A i))) :
    Calls Try.prog 5 #[.slice (some x0) n c0, .slice (some x1) n c1, .int .i64 (i : Int), .int .i64 (j : Int)] w fun e w' => e = .returned (.bool true) ∧ Below w.heap.size w w' := by
  have hmk := run_make_row' (P := Try.prog) 22 3 (.int .i64 0) 8 Try.underlying22 info3 rfl .i64 .i64 n (by omega) (by omega)
  have hmk' := run_make_row' (P := Try.prog) 23 29 (.int .u64 0) 8 Try.underlying23 info29 rfl .i64 .i64 n (by omega) (by omega)
  have q22 : ∀ (w : World) (a : Option Addr) (n c n' c' : Nat), (binOp .neq 22 (.slice a n c) (.slice none n' c')).run Try.prog w = .ok (.bool (!a.isNone)) w := fun w a n c n' c' => run_neq_slice_nil_any w _ _ a n c n' c' Try.underlying22
  have q23 : ∀ (w : World) (a : Option Addr) (n c n' c' : Nat), (binOp .neq 23 (.slice a n c) (.slice none n' c')).run Try.prog w = .ok (.bool (!a.isNone)) w := fun w a n c n' c' => run_neq_slice_nil_any w _ _ a n c n' c' Try.underlying23
  obtain ⟨w1, hcp1, hb1, hs1, hr1⟩ := made_copied (P := Try.prog) w 22 22 3 3 Try.underlying22 size3 n c0 x0 (.int .i64 0) (fun j => .int .i64 (P j)) h0 (fun _ _ => rfl)
  obtain ⟨w2, hcp2, hb2, hs2, hr2⟩ := made_copied (P := Try.prog) w1 23 23 3 29 Try.underlying23 size29 n c1 x1 (.int .u64 0) (fun j => .int .u64 (A j)) (fun j hj => below_some hb1 (h1 j hj)) (fun _ _ => rfl)
  have hr1' := below_row hb2 hr1 (by omega)
  have hb : Below w.heap.size w w2 := hb1.trans (hb2.mono (by omega))
  have HS : Hid (w1.heap.size = w.heap.size + 1 ∧ w2.heap.size = w.heap.size + 2) := ⟨hs1, by omega⟩
  have HR : Hid (w2.rowIs w.heap.size 3 n (fun j => .int .i64 (P j)) ∧ w2.rowIs w1.heap.size 29 n (fun j => .int .u64 (A j))) := ⟨hr1', hr2⟩
  clear h0 h1 hb1 hb2 hs1 hs2 hr1 hr2 hr1'
  go_enter Try.func5, Try.ntmps5
  go_wp2_with (first | (go_at_call 13; refine (bytes13_yes _ _ _ _ _ _ _ _ _ (by omega)).mono ?_; rintro e w' ⟨rfl, rfl⟩) | (go_at_call 10; refine (new_any w2 w.heap.size w1.heap.size n P A hn HR.out.1 HR.out.2).mono ?_))
  rintro e w3 ⟨rfl, hb3, hQ3⟩
  have HR3 : Hid (w3.rowIs w.heap.size 3 n (fun j => .int .i64 (P j)) ∧ w3.rowIs w1.heap.size 29 n (fun j => .int .u64 (A j))) :=
    ⟨below_row hb3 HR.out.1 (by have := HS.out; omega), below_row hb3 HR.out.2 (by have := HS.out; omega)⟩
  have hbw3 : Below w.heap.size w w3 := hb.trans (hb3.mono (by have := HS.out; omega))
  have HQ3 : Hid (Queue w3 w2.heap.size n (fun j => j) (fun j => (j : Int)) P A) := hQ3
  clear hQ3 HR hb hb3 hcp1 hcp2 hmk hmk' q22 q23
  go_wp2_with (first | (go_at_call 14; refine (swap_any w3 _ n _ _ P A HQ3.out hn i j hi hj hi hj id).mono ?_))
  rintro e w4 ⟨rfl, hb4, hQ4⟩
  have HR4 : Hid (w4.rowIs w.heap.size 3 n (fun j => .int .i64 (P j)) ∧ w4.rowIs w1.heap.size 29 n (fun j => .int .u64 (A j))) :=
    ⟨below_row hb4 HR3.out.1 (by have := HS.out; omega), below_row hb4 HR3.out.2 (by have := HS.out; omega)⟩
  have hbw4 : Below w.heap.size w w4 := hbw3.trans (hb4.mono (by have := HS.out; omega))
  have HQ4 : Hid (Queue w4 w2.heap.size n (π1 i j) (I1 i j) P A) := hQ4
  clear hQ4 HQ3 HR3 hb4 hbw3
  go_wp2
  go_loopw [13, 14, 15, 16, 17] (fun q _ _ _ _ wr => ∃ k m : Nat, k ≤ n ∧ q = .int .i64 k ∧ wr = w4.drewN m) (fun q _ _ _ _ _ => n - (intOf q).toNat)
  case atStart => exact ⟨0, 0, by omega, rfl, rfl⟩
  case round =>
    obtain ⟨k, m, hk, rfl, rfl⟩ := hrel
    by_cases hlt : k < n
    · have hat := fun m => first_at HQ4.out hn hi hj k hlt m
      have hs := src_lt hi hj hlt
      have hc := HR4.out.1.cell hs
      have hd := HR4.out.2.cell hs
      have HAT := hide hat
      clear hat
      by_cases ki : k = i
      · have kb : ((k : Int) == (i : Int)) = true := by simp; omega
        have e2 : src i j k = j := by unfold src; rw [if_pos ki]
        rw [e2] at hc hd HAT
        clear ki e2 hs
        go_wp2_with (first | (go_at_call 15; refine (HAT.out _).mono ?_; rintro e w' ⟨rfl, m', rfl⟩))
        go_roundw
        case rel => exact ⟨k + 1, _, by omega, by go_num, rfl⟩
        case measure => simp [intOf]; omega
      · by_cases kj : k = j
        · have kb : ((k : Int) == (i : Int)) = false := by simp; omega
          have kc : ((k : Int) == (j : Int)) = true := by simp; omega
          have e2 : src i j k = i := by unfold src; rw [if_neg ki, if_pos kj]
          rw [e2] at hc hd HAT
          clear ki kj e2 hs
          go_wp2_with (first | (go_at_call 15; refine (HAT.out _).mono ?_; rintro e w' ⟨rfl, m', rfl⟩))
          go_roundw
          case rel => exact ⟨k + 1, _, by omega, by go_num, rfl⟩
          case measure => simp [intOf]; omega
        · have kb : ((k : Int) == (i : Int)) = false := by simp; omega
          have kc : ((k : Int) == (j : Int)) = false := by simp; omega
          have e2 : src i j k = k := by unfold src; rw [if_neg ki, if_neg kj]
          rw [e2] at hc hd HAT
          clear ki kj e2 hs
          go_wp2_with (first | (go_at_call 15; refine (HAT.out _).mono ?_; rintro e w' ⟨rfl, m', rfl⟩))
          go_roundw
          case rel => exact ⟨k + 1, _, by omega, by go_num, rfl⟩
          case measure => simp [intOf]; omega
    · obtain rfl : k = n := by omega
      have hsw := swap_any (w4.drewN m) w2.heap.size k _ _ P A (queue_alike HQ4.out rfl) hn i j hi hj (by rw [π1_eq]; exact src_lt hi hj hi) (by rw [π1_eq]; exact src_lt hi hj hj) src_ne
      have HSW := hide hsw
      clear hsw
      go_wp2_with (first | (go_at_call 14; refine HSW.out.mono ?_))
      rintro e w5 ⟨rfl, hb5, hQ5⟩
      have HR5 : Hid (w5.rowIs w.heap.size 3 k (fun j => .int .i64 (P j)) ∧ w5.rowIs w1.heap.size 29 k (fun j => .int .u64 (A j))) :=
        ⟨below_row ((below_drawn (Below.refl _ w4) m).trans hb5) HR4.out.1 (by have := HS.out; omega), below_row ((below_drawn (Below.refl _ w4) m).trans hb5) HR4.out.2 (by have := HS.out; omega)⟩
      have hbw5 : Below w.heap.size w w5 := (below_drawn hbw4 m).trans (hb5.mono (by have := HS.out; omega))
      have HQ5 : Hid (Queue w5 w2.heap.size k (π2 i j) (I2 i j) P A) := hQ5
      clear hQ5 HQ4 HR4 hb5 hbw4 HSW
      go_wp2
      go_loopw [18, 19, 20, 21] (fun q _ _ _ wr => ∃ r m : Nat, r ≤ k ∧ q = .int .i64 r ∧ wr = w5.drewN m) (fun q _ _ _ _ => k - (intOf q).toNat)
      case atStart => exact ⟨0, 0, by omega, rfl, rfl⟩
      case round =>
        obtain ⟨r, m, hr, rfl, rfl⟩ := hrel
        by_cases hlt : r < k
        · have hat := fun m => second_at HQ5.out hn r hlt m
          have hc := HR5.out.1.cell hlt
          have hd := HR5.out.2.cell hlt
          have HAT := hide hat
          clear hat
          go_wp2_with (first | (go_at_call 15; refine (HAT.out _).mono ?_; rintro e w' ⟨rfl, m', rfl⟩))
          go_roundw
          case rel => exact ⟨r + 1, _, by omega, by go_num, rfl⟩
          case measure => simp [intOf]; omega
        · go_wp2
          go_ret
          exact ⟨rfl, below_drawn hbw5 _⟩

theorem row_le {k : IntKind} {w : World} {a : Option Addr} {len cap : Nat} {zs : List Int} (h : IsRow k w a len cap zs) : len ≤ 9223372036854775807 := by
  rcases h with ⟨_, rfl, _⟩ | ⟨x, _, h1, h2, _⟩
  · omega
  · unfold maxLen at h2; omega
theorem row_at {k : IntKind} {w : World} {a : Option Addr} {len cap : Nat} {zs : List Int} (h : IsRow k w a len cap zs) (h0 : 0 < len) :
    ∃ x, a = some x ∧ ∀ i, i < len → w.cell? (x.add i) = some (.int k (zs.getD i 0)) := by
  rcases h with ⟨_, rfl, _⟩ | ⟨x, e, h1, _, h3, h4, _⟩
  · omega
  · exact ⟨x, e, fun i hi => h4 i (by omega)⟩

theorem row_way {k : IntKind} {w : World} {a : Option Addr} {len cap : Nat} {zs : List Int} (h : IsRow k w a len cap zs) :
    a = none ∨ ∃ x, a = some x ∧ ∀ i, i < len → w.cell? (x.add i) = some (.int k (zs.getD i 0)) := by
  rcases h with ⟨e, _⟩ | ⟨x, e, h1, _, h3, h4, _⟩
  · exact .inl e
  · exact .inr ⟨x, e, fun i hi => h4 i (by omega)⟩

/-! ### places outside the queue: the law returns behind the copies -/
set_option maxHeartbeats 1000000 in
set_option maxRecDepth 100000 in
theorem out_some (w : World) (x0 x1 : Addr) (n c0 c1 : Nat) (i j : Int) (P A : Nat → Int) (hn : n ≤ 65536)
    (h0 : ∀ i, i < n → w.cell? (x0.add i) = some (.int .i64 (P i))) (h1 : ∀ i, i < n → w.cell? (x1.add i) = some (.int .u64 (A i)))
    (hbad : i < 0 ∨ (0 ≤ i ∧ (n : Int) ≤ i) ∨ (0 ≤ i ∧ i < (n : Int) ∧ j < 0) ∨ (0 ≤ i ∧ i < (n : Int) ∧ 0 ≤ j ∧ (n : Int) ≤ j)) :
    Calls Try.prog 5 #[.slice (some x0) n c0, .slice (some x1) n c1, .int .i64 i, .int .i64 j] w fun e w' => e = .returned (.bool true) ∧ Below w.heap.size w w' := by
  have hmk := run_make_row' (P := Try.prog) 22 3 (.int .i64 0) 8 Try.underlying22 info3 rfl .i64 .i64 n (by omega) (by omega)
  have hmk' := run_make_row' (P := Try.prog) 23 29 (.int .u64 0) 8 Try.underlying23 info29 rfl .i64 .i64 n (by omega) (by omega)
  have q22 : ∀ (w : World) (a : Option Addr) (n c n' c' : Nat), (binOp .neq 22 (.slice a n c) (.slice none n' c')).run Try.prog w = .ok (.bool (!a.isNone)) w := fun w a n c n' c' => run_neq_slice_nil_any w _ _ a n c n' c' Try.underlying22
  have q23 : ∀ (w : World) (a : Option Addr) (n c n' c' : Nat), (binOp .neq 23 (.slice a n c) (.slice none n' c')).run Try.prog w = .ok (.bool (!a.isNone)) w := fun w a n c n' c' => run_neq_slice_nil_any w _ _ a n c n' c' Try.underlying23
  obtain ⟨w1, hcp1, hb1, hs1, hr1⟩ := made_copied (P := Try.prog) w 22 22 3 3 Try.underlying22 size3 n c0 x0 (.int .i64 0) (fun j => .int .i64 (P j)) h0 (fun _ _ => rfl)
  obtain ⟨w2, hcp2, hb2, hs2, hr2⟩ := made_copied (P := Try.prog) w1 23 23 3 29 Try.underlying23 size29 n c1 x1 (.int .u64 0) (fun j => .int .u64 (A j)) (fun j hj => below_some hb1 (h1 j hj)) (fun _ _ => rfl)
  have hb : Below w.heap.size w w2 := hb1.trans (hb2.mono (by omega))
  clear h0 h1 hb1 hb2 hs1 hs2 hr1 hr2
  rcases hbad with b1 | ⟨b1, b2⟩ | ⟨b1, b2, b3⟩ | ⟨b1, b2, b3, b4⟩
  all_goals
    go_enter Try.func5, Try.ntmps5
    go_wp2_with (go_at_call 13; refine (bytes13_yes _ _ _ _ _ _ _ _ _ (by omega)).mono ?_; rintro e w' ⟨rfl, rfl⟩)
    go_ret
    exact ⟨rfl, hb⟩

set_option maxHeartbeats 1000000 in
set_option maxRecDepth 100000 in
theorem out_right (w : World) (x1 : Addr) (n c0 c1 : Nat) (i j : Int) (A : Nat → Int) (hn : n ≤ 65536)
    (h1 : ∀ i, i < n → w.cell? (x1.add i) = some (.int .u64 (A i)))
    (hbad : i < 0 ∨ (0 ≤ i ∧ (n : Int) ≤ i) ∨ (0 ≤ i ∧ i < (n : Int) ∧ j < 0) ∨ (0 ≤ i ∧ i < (n : Int) ∧ 0 ≤ j ∧ (n : Int) ≤ j)) :
    Calls Try.prog 5 #[.slice none n c0, .slice (some x1) n c1, .int .i64 i, .int .i64 j] w fun e w' => e = .returned (.bool true) ∧ Below w.heap.size w w' := by
  have hmk' := run_make_row' (P := Try.prog) 23 29 (.int .u64 0) 8 Try.underlying23 info29 rfl .i64 .i64 n (by omega) (by omega)
  have q22 : ∀ (w : World) (a : Option Addr) (n c n' c' : Nat), (binOp .neq 22 (.slice a n c) (.slice none n' c')).run Try.prog w = .ok (.bool (!a.isNone)) w := fun w a n c n' c' => run_neq_slice_nil_any w _ _ a n c n' c' Try.underlying22
  have q23 : ∀ (w : World) (a : Option Addr) (n c n' c' : Nat), (binOp .neq 23 (.slice a n c) (.slice none n' c')).run Try.prog w = .ok (.bool (!a.isNone)) w := fun w a n c n' c' => run_neq_slice_nil_any w _ _ a n c n' c' Try.underlying23
  obtain ⟨w2, hcp2, hb, hs2, hr2⟩ := made_copied (P := Try.prog) w 23 23 3 29 Try.underlying23 size29 n c1 x1 (.int .u64 0) (fun j => .int .u64 (A j)) h1 (fun _ _ => rfl)
  clear h1 hs2 hr2
  rcases hbad with b1 | ⟨b1, b2⟩ | ⟨b1, b2, b3⟩ | ⟨b1, b2, b3, b4⟩
  all_goals
    go_enter Try.func5, Try.ntmps5
    go_wp2_with (go_at_call 13; refine (bytes13_yes _ _ _ _ _ _ _ _ _ (by omega)).mono ?_; rintro e w' ⟨rfl, rfl⟩)
    go_ret
    exact ⟨rfl, hb⟩

set_option maxHeartbeats 1000000 in
set_option maxRecDepth 100000 in
theorem out_left (w : World) (x0 : Addr) (n c0 c1 : Nat) (i j : Int) (P : Nat → Int) (hn : n ≤ 65536)
    (h0 : ∀ i, i < n → w.cell? (x0.add i) = some (.int .i64 (P i)))
    (hbad : i < 0 ∨ (0 ≤ i ∧ (n : Int) ≤ i) ∨ (0 ≤ i ∧ i < (n : Int) ∧ j < 0) ∨ (0 ≤ i ∧ i < (n : Int) ∧ 0 ≤ j ∧ (n : Int) ≤ j)) :
    Calls Try.prog 5 #[.slice (some x0) n c0, .slice none n c1, .int .i64 i, .int .i64 j] w fun e w' => e = .returned (.bool true) ∧ Below w.heap.size w w' := by
  have hmk := run_make_row' (P := Try.prog) 22 3 (.int .i64 0) 8 Try.underlying22 info3 rfl .i64 .i64 n (by omega) (by omega)
  have q22 : ∀ (w : World) (a : Option Addr) (n c n' c' : Nat), (binOp .neq 22 (.slice a n c) (.slice none n' c')).run Try.prog w = .ok (.bool (!a.isNone)) w := fun w a n c n' c' => run_neq_slice_nil_any w _ _ a n c n' c' Try.underlying22
  have q23 : ∀ (w : World) (a : Option Addr) (n c n' c' : Nat), (binOp .neq 23 (.slice a n c) (.slice none n' c')).run Try.prog w = .ok (.bool (!a.isNone)) w := fun w a n c n' c' => run_neq_slice_nil_any w _ _ a n c n' c' Try.underlying23
  obtain ⟨w2, hcp2, hb, hs2, hr2⟩ := made_copied (P := Try.prog) w 22 22 3 3 Try.underlying22 size3 n c0 x0 (.int .i64 0) (fun j => .int .i64 (P j)) h0 (fun _ _ => rfl)
  clear h0 hs2 hr2
  rcases hbad with b1 | ⟨b1, b2⟩ | ⟨b1, b2, b3⟩ | ⟨b1, b2, b3, b4⟩
  all_goals
    go_enter Try.func5, Try.ntmps5
    go_wp2_with (go_at_call 13; refine (bytes13_yes _ _ _ _ _ _ _ _ _ (by omega)).mono ?_; rintro e w' ⟨rfl, rfl⟩)
    go_ret
    exact ⟨rfl, hb⟩

set_option maxHeartbeats 1000000 in
set_option maxRecDepth 100000 in
theorem out_none (w : World) (n c0 c1 : Nat) (i j : Int) (hn : n ≤ 65536)
    (hbad : i < 0 ∨ (0 ≤ i ∧ (n : Int) ≤ i) ∨ (0 ≤ i ∧ i < (n : Int) ∧ j < 0) ∨ (0 ≤ i ∧ i < (n : Int) ∧ 0 ≤ j ∧ (n : Int) ≤ j)) :
    Calls Try.prog 5 #[.slice none n c0, .slice none n c1, .int .i64 i, .int .i64 j] w fun e w' => e = .returned (.bool true) ∧ Below w.heap.size w w' := by
  have q22 : ∀ (w : World) (a : Option Addr) (n c n' c' : Nat), (binOp .neq 22 (.slice a n c) (.slice none n' c')).run Try.prog w = .ok (.bool (!a.isNone)) w := fun w a n c n' c' => run_neq_slice_nil_any w _ _ a n c n' c' Try.underlying22
  have q23 : ∀ (w : World) (a : Option Addr) (n c n' c' : Nat), (binOp .neq 23 (.slice a n c) (.slice none n' c')).run Try.prog w = .ok (.bool (!a.isNone)) w := fun w a n c n' c' => run_neq_slice_nil_any w _ _ a n c n' c' Try.underlying23
  have hb : Below w.heap.size w w := Below.refl _ _
  rcases hbad with b1 | ⟨b1, b2⟩ | ⟨b1, b2, b3⟩ | ⟨b1, b2, b3, b4⟩
  all_goals
    go_enter Try.func5, Try.ntmps5
    go_wp2_with (go_at_call 13; refine (bytes13_yes _ _ _ _ _ _ _ _ _ (by omega)).mono ?_; rintro e w' ⟨rfl, rfl⟩)
    go_ret
    exact ⟨rfl, hb⟩

/-! ### THE WALK -/
set_option maxRecDepth 100000 in
theorem walk (a0 : Option Addr) (len0 cap0 : Nat) (z0 : List Int) (a1 : Option Addr) (len1 cap1 : Nat) (z1 : List Int) (a2 : Int) (a3 : Int) (w : World) (w0 : IsRow .i64 w a0 len0 cap0 z0) (w1 : IsRow .u64 w a1 len1 cap1 z1) (w2 : (Lit.int .i64 a2).wf = true) (w3 : (Lit.int .i64 a3).wf = true) :
    Calls Try.prog 5 #[.slice a0 len0 cap0, .slice a1 len1 cap1, .int .i64 a2, .int .i64 a3] w fun e w' => e = .returned (.bool true) ∧ Below w.heap.size w w' := by
  have m0 := row_le w0
  have m1 := row_le w1
  by_cases c1 : 1048576 < len0 + len1
  · clear w0 w1
    go_enter Try.func5, Try.ntmps5
    go_wp2_with (go_at_call 13; refine (bytes13_no _ _ _ _ _ _ _ _ _ m0 m1 c1).mono ?_; rintro e w' ⟨rfl, rfl⟩)
    go_ret
    exact ⟨rfl, Below.refl _ _⟩
  by_cases c2 : 65536 < len0
  · clear w0 w1
    go_enter Try.func5, Try.ntmps5
    go_wp2_with (go_at_call 13; refine (bytes13_yes _ _ _ _ _ _ _ _ _ (by omega)).mono ?_; rintro e w' ⟨rfl, rfl⟩)
    go_ret
    exact ⟨rfl, Below.refl _ _⟩
  by_cases c3 : 65536 < len1
  · clear w0 w1
    go_enter Try.func5, Try.ntmps5
    go_wp2_with (go_at_call 13; refine (bytes13_yes _ _ _ _ _ _ _ _ _ (by omega)).mono ?_; rintro e w' ⟨rfl, rfl⟩)
    go_ret
    exact ⟨rfl, Below.refl _ _⟩
  by_cases c4 : len0 = len1
  · subst c4
    by_cases c5 : 0 ≤ a2 ∧ a2 < (len0 : Int) ∧ 0 ≤ a3 ∧ a3 < (len0 : Int)
    · obtain ⟨x0, rfl, h0⟩ := row_at w0 (by omega)
      obtain ⟨x1, rfl, h1⟩ := row_at w1 (by omega)
      obtain ⟨i, rfl⟩ : ∃ i : Nat, a2 = (i : Int) := ⟨a2.toNat, by omega⟩
      obtain ⟨j, rfl⟩ : ∃ j : Nat, a3 = (j : Int) := ⟨a3.toNat, by omega⟩
      exact core w x0 x1 len0 cap0 cap1 i j (fun i => z0.getD i 0) (fun i => z1.getD i 0) (by omega) (by omega) (by omega) h0 h1
    · have hbad : a2 < 0 ∨ (0 ≤ a2 ∧ (len0 : Int) ≤ a2) ∨ (0 ≤ a2 ∧ a2 < (len0 : Int) ∧ a3 < 0) ∨ (0 ≤ a2 ∧ a2 < (len0 : Int) ∧ 0 ≤ a3 ∧ (len0 : Int) ≤ a3) := by omega
      rcases row_way w0 with rfl | ⟨x0, rfl, h0⟩ <;> rcases row_way w1 with rfl | ⟨x1, rfl, h1⟩
      · exact out_none w len0 cap0 cap1 a2 a3 (by omega) hbad
      · exact out_right w x1 len0 cap0 cap1 a2 a3 _ (by omega) h1 hbad
      · exact out_left w x0 len0 cap0 cap1 a2 a3 _ (by omega) h0 hbad
      · exact out_some w x0 x1 len0 cap0 cap1 a2 a3 _ _ (by omega) h0 h1 hbad
  · have c5 : ((len0 : Int) != (len1 : Int)) = true := by simp; omega
    clear w0 w1 c4
    go_enter Try.func5, Try.ntmps5
    go_wp2_with (go_at_call 13; refine (bytes13_yes _ _ _ _ _ _ _ _ _ (by omega)).mono ?_; rintro e w' ⟨rfl, rfl⟩)
    go_ret
    exact ⟨rfl, Below.refl _ _⟩

/-! ### THE ROW's STEP: WRITTEN OUT: LEAVE IT -/
set_option maxRecDepth 100000 in
theorem lifted (os : Os) (started : os.Started) (H : Type) (enc : TypeId × Value → H) :
    ReturnsInHanded {} Try.checked os 5 .any (Rows.fnSwapOnceExchangesTwiceRestoresSpec.pre6 enc Try.prog Try.f5 Rows.fnSwapOnceExchangesTwiceRestoresRow.domain false) (Rows.fnSwapOnceExchangesTwiceRestoresSpec.post enc Try.prog Try.f5 false true false false) := by
  refine returnsInHanded_of_change (C := Try.checked) own started (by kernel_rfl) Try.func5
    (ChangeSpec.witness6 (enc := enc) (C := Try.checked) false ⟨#[], #[.slice none 0 0, .slice none 0 0, .int .i64 0, .int .i64 0], []⟩ 8 (by kernel_rfl) (by kernel_rfl) (by kernel_rfl) (by kernel_rfl)) ?_
  intro W base args ds gs before hval0 hW hcnd _
  have hval : ∀ (j : Nat) t v, Try.f5.params[j]? = some t → args[j]? = some v → Value.okWide Try.prog W .any base t v := hval0
  have hW' := hW
  obtain ⟨p, q, hA0, hV, rfl, hfz, hnd⟩ := hW
  have hA : DataW.TrodAll enc Try.prog W 0 (fun _ => true) true Try.f5.params.toList args.toList ds p := hA0
  rw [Try.params5] at hA hval
  obtain ⟨v0, vs0, d0, ds0, p0, q0, hargs, rfl, rfl, h0, r0⟩ := trodAll_cons hA
  obtain ⟨v1, vs1, d1, ds1, p1, q1, rfl, rfl, rfl, h1, r1⟩ := trodAll_cons r0
  obtain ⟨v2, vs2, d2, ds2, p2, q2, rfl, rfl, rfl, h2, r2⟩ := trodAll_cons r1
  obtain ⟨v3, vs3, d3, ds3, p3, q3, rfl, rfl, rfl, h3, r3⟩ := trodAll_cons r2
  obtain ⟨rfl, rfl, rfl⟩ := trodAll_nil r3
  obtain rfl : args = #[v0, v1, v2, v3] := by cases args; simp_all
  obtain ⟨rfl, rfl⟩ := trodVars_none hV
  obtain ⟨a0, len0, cap0, rfl⟩ := okWide_slice Try.underlying22 (hval 0 22 v0 rfl rfl)
  have k0 := h0
  have lt0 : ∀ x ∈ p0, x.block < W.heap.size := by obtain ⟨m, hm⟩ := k0; exact DataW.trod_lt m _ _ _ hm
  obtain ⟨z0, w0⟩ : ∃ zs, IsRow .i64 W a0 len0 cap0 zs := by
    obtain ⟨fuel, hf⟩ := h0
    rcases open_ints Try.underlying22 Try.underlying3 (by kernel_rfl) hf with ⟨hcs, _⟩ | ⟨x, l, c, zs, hcs, _, hl, hm, hz, _, hcell, hwz⟩
    · simp [Value.cells] at hcs
      obtain ⟨rfl, rfl, rfl⟩ := hcs
      exact ⟨[], .inl ⟨rfl, rfl, rfl, rfl⟩⟩
    · simp [Value.cells] at hcs
      obtain ⟨rfl, rfl, rfl⟩ := hcs
      exact ⟨zs, .inr ⟨_, rfl, hl, hm, by simpa using hz, hcell, hwz⟩⟩
  obtain ⟨a1, len1, cap1, rfl⟩ := okWide_slice Try.underlying23 (hval 1 23 v1 rfl rfl)
  have k1 := h1
  have lt1 : ∀ x ∈ p1, x.block < W.heap.size := by obtain ⟨m, hm⟩ := k1; exact DataW.trod_lt m _ _ _ hm
  obtain ⟨z1, w1⟩ : ∃ zs, IsRow .u64 W a1 len1 cap1 zs := by
    obtain ⟨fuel, hf⟩ := h1
    rcases open_ints Try.underlying23 Try.underlying29 (by kernel_rfl) hf with ⟨hcs, _⟩ | ⟨x, l, c, zs, hcs, _, hl, hm, hz, _, hcell, hwz⟩
    · simp [Value.cells] at hcs
      obtain ⟨rfl, rfl, rfl⟩ := hcs
      exact ⟨[], .inl ⟨rfl, rfl, rfl, rfl⟩⟩
    · simp [Value.cells] at hcs
      obtain ⟨rfl, rfl, rfl⟩ := hcs
      exact ⟨zs, .inr ⟨_, rfl, hl, hm, by simpa using hz, hcell, hwz⟩⟩
  obtain ⟨a2, rfl, rfl, rfl, w2⟩ := open_int Try.underlying3 (hval 2 3 v2 rfl rfl) h2
  obtain ⟨a3, rfl, rfl, rfl, w3⟩ := open_int Try.underlying3 (hval 3 3 v3 rfl rfl) h3
  clear hA0 hval0
  refine (walk a0 len0 cap0 z0 a1 len1 cap1 z1 a2 a3 W w0 w1 w2 w3).mono fun e W' ⟨he, bel⟩ => ?_
  subst he
  exact ⟨_, rfl, _, _, _, [], _, [], hW', trodAll_mk1 (shut_bool Try.underlying4 _), (trodAll_cons_mk (Below.trod laidOut (by kernel_rfl) (of_decide_eq_true (by kernel_rfl)) k0 bel lt0) (trodAll_cons_mk (Below.trod laidOut (by kernel_rfl) (of_decide_eq_true (by kernel_rfl)) k1 bel lt1) (trodAll_cons_mk (shut_int Try.underlying3 w2) (trodAll_cons_mk (shut_int Try.underlying3 w3) trodAll_mk0)))), rfl, bel.frame _, fun h => by cases h⟩

theorem over : Rows.fnSwapOnceExchangesTwiceRestoresRow.holds Try.pinned (OpenSpec.ofChange Rows.fnSwapOnceExchangesTwiceRestoresSpec) :=
  OpenClaim.holds_of_wide 5 Try.f5 rfl rfl rfl rfl rfl rfl rfl ⟨rfl, rfl, rfl, rfl, rfl⟩ rfl rfl rfl rfl rfl (by kernel_rfl) Try.func5 (by kernel_rfl)
    (of_decide_eq_true (by kernel_rfl)) (by unfold Func.isWrapper; first | (rw [if_pos (by decide +kernel)]; kernel_rfl) | (rw [if_neg (by decide +kernel)]; exact ⟨rfl, rfl⟩))
    (fun os started H enc _ => lifted os started H enc)

/-- THE STATEMENT -/
theorem proved : Rows.FnSwapOnceExchangesTwiceRestoresSaid := over
#print axioms proved
end Go.Proofs.Qxb6618956a.fnSwapOnceExchangesTwiceRestores
