/-
  A proof of 'Rows.FnLessScanFindsServeFirstSaid': for every two slices the law returns true, and nothing that was there is written.
  The frame (own, lifted, over, proved) was written by the kit's proof-skeleton for this function; the lemmas and the walk are the prover's.
-/
import Derived.Test.Qxb6618956aRows
import Derived.WalkKit
import Derived.ProofKit
import Derived.OpenShut
import Derived.ShutString
import Derived.ChangeOld
import Derived.Below
import Derived.Test.Qxb6618956aCopies
namespace Go.Proofs.Qxb6618956a.fnLessScanFindsServeFirst
open Go.ChangeShapes Go.WideShapes Go.ChangeAt Go.RowKit
open Go.ChangeMaps (open_string shut_string)
set_option linter.unusedVariables false

theorem own : ownKnob Try.prog.godebug = none := by kernel_rfl
theorem laidOut : laidOutB Try.prog = true := by kernel_rfl

/-- WHAT THE WALK IS TOLD OF A SLICE OF INTEGERS THAT CAME IN: it is nil; or it leads to a row of 'cap' cells, the numbers 'zs' (the first 'len' are its elements, the rest its spare room), each fitting its kind. -/
def IsRow (k : IntKind) (w : World) (a : Option Addr) (len cap : Nat) (zs : List Int) : Prop :=
  (a = none ∧ len = 0 ∧ cap = 0 ∧ zs = []) ∨
  ∃ x, a = some x ∧ len ≤ cap ∧ cap ≤ maxLen ∧ zs.length = cap ∧ (∀ i, i < zs.length → w.cell? (x.add i) = some (.int k (zs.getD i 0))) ∧ ∀ n ∈ zs, (Lit.int k n).wf = true

open waiters

theorem below_drawn {B : Nat} {a w : World} (h : Below B a w) (n : Nat) : Below B a (w.drewN n) := h.trans ⟨rfl, rfl, rfl, Nat.le_refl _, fun _ _ => rfl⟩

/-! ### THE PLAIN LAW -/
/-- 'b' is the first of the first k waiters that none is less than -/
def Best (P A : Nat → Int) (k b : Nat) : Prop :=
  b < k ∧ (∀ j, j < k → lessB (P j) (A j) (P b) (A b) = false) ∧ ∀ j, j < b → lessB (P b) (A b) (P j) (A j) = true
theorem less_true (p a p' a' : Int) : lessB p a p' a' = true ↔ (p' < p ∨ (p = p' ∧ a < a')) := by
  unfold lessB; split <;> simp <;> omega
theorem less_false (p a p' a' : Int) : lessB p a p' a' = false ↔ (p < p' ∨ (p = p' ∧ a' ≤ a)) := by
  unfold lessB; split <;> simp <;> omega
/-- the greatest of the first k priorities -/
def MaxOf (P : Nat → Int) (k : Nat) (M : Int) : Prop := (∃ j, j < k ∧ P j = M) ∧ ∀ j, j < k → P j ≤ M
theorem max_start (P : Nat → Int) : MaxOf P 1 (P 0) := ⟨⟨0, by omega, rfl⟩, fun j hj => by (obtain rfl : j = 0 := by omega); exact Int.le_refl _⟩
theorem max_yes {P : Nat → Int} {k : Nat} {M : Int} (h : MaxOf P k M) (hl : M < P k) : MaxOf P (k + 1) (P k) := by
  refine ⟨⟨k, by omega, rfl⟩, fun j hj => ?_⟩
  by_cases e : j = k
  · subst e; omega
  · have := h.2 j (by omega); omega
theorem max_no {P : Nat → Int} {k : Nat} {M : Int} (h : MaxOf P k M) (hl : ¬ M < P k) : MaxOf P (k + 1) M := by
  obtain ⟨⟨i, hi, hM⟩, h2⟩ := h
  refine ⟨⟨i, by omega, hM⟩, fun j hj => ?_⟩
  by_cases e : j = k
  · subst e; omega
  · exact h2 j (by omega)
theorem max_best {P A : Nat → Int} {k b : Nat} {M : Int} (h : Best P A k b) (hM : MaxOf P k M) : M = P b := by
  obtain ⟨⟨i, hi, e⟩, h2⟩ := hM
  have h3 := h.2.1 i hi
  have h4 := h2 b h.1
  rw [less_false] at h3
  omega
/-- the earliest arrival among the first k waiters of priority M, where there is one -/
def MinOf (P A : Nat → Int) (M : Int) (k : Nat) (f : Bool) (m : Int) : Prop :=
  (f = false ∧ ∀ j, j < k → P j ≠ M) ∨ (f = true ∧ (∃ j, j < k ∧ P j = M ∧ A j = m) ∧ ∀ j, j < k → P j = M → m ≤ A j)
theorem min_start (P A : Nat → Int) (M : Int) : MinOf P A M 0 false 0 := .inl ⟨rfl, fun j hj => by omega⟩
theorem min_skip {P A : Nat → Int} {M : Int} {k : Nat} {f : Bool} {m : Int} (h : MinOf P A M k f m) (he : (P k == M) = false) : MinOf P A M (k + 1) f m := by
  have hk : P k ≠ M := by simpa using he
  rcases h with ⟨h1, h2⟩ | ⟨h1, ⟨i, hi, e⟩, h3⟩
  · refine .inl ⟨h1, fun j hj => ?_⟩
    by_cases q : j = k
    · subst q; exact hk
    · exact h2 j (by omega)
  · refine .inr ⟨h1, ⟨i, by omega, e⟩, fun j hj p => ?_⟩
    by_cases q : j = k
    · subst q; exact absurd p hk
    · exact h3 j (by omega) p
theorem min_first {P A : Nat → Int} {M : Int} {k : Nat} {m : Int} (h : MinOf P A M k false m) (he : (P k == M) = true) : MinOf P A M (k + 1) true (A k) := by
  have hk : P k = M := by simpa using he
  rcases h with ⟨_, h2⟩ | ⟨h1, _⟩
  · refine .inr ⟨rfl, ⟨k, by omega, hk, rfl⟩, fun j hj p => ?_⟩
    by_cases q : j = k
    · subst q; exact Int.le_refl _
    · exact absurd p (h2 j (by omega))
  · cases h1
theorem min_less {P A : Nat → Int} {M : Int} {k : Nat} {m : Int} (h : MinOf P A M k true m) (he : (P k == M) = true) (hl : A k < m) : MinOf P A M (k + 1) true (A k) := by
  have hk : P k = M := by simpa using he
  rcases h with ⟨h1, _⟩ | ⟨_, _, h3⟩
  · cases h1
  · refine .inr ⟨rfl, ⟨k, by omega, hk, rfl⟩, fun j hj p => ?_⟩
    by_cases q : j = k
    · subst q; exact Int.le_refl _
    · have := h3 j (by omega) p; omega
theorem min_keep {P A : Nat → Int} {M : Int} {k : Nat} {m : Int} (h : MinOf P A M k true m) (hl : ¬ A k < m) : MinOf P A M (k + 1) true m := by
  rcases h with ⟨h1, _⟩ | ⟨_, ⟨i, hi, e⟩, h3⟩
  · cases h1
  · refine .inr ⟨rfl, ⟨i, by omega, e⟩, fun j hj p => ?_⟩
    by_cases q : j = k
    · subst q; omega
    · exact h3 j (by omega) p
theorem min_best {P A : Nat → Int} {k b : Nat} {f : Bool} {m : Int} (h : Best P A k b) (hm : MinOf P A (P b) k f m) : f = true ∧ m = A b := by
  rcases hm with ⟨_, h2⟩ | ⟨h1, ⟨i, hi, e1, e2⟩, h3⟩
  · exact absurd rfl (h2 b h.1)
  · refine ⟨h1, ?_⟩
    have h4 := h.2.1 i hi
    have h5 := h3 b h.1 rfl
    rw [less_false] at h4
    omega
/-- before 'b' no waiter has b's key -/
theorem key_ne {P A : Nat → Int} {k b q : Nat} (h : Best P A k b) (hq : q < b) (he : (P q == P b) = true) : (A q == A b) = false := by
  have h2 := h.2.2 q hq
  rw [less_true] at h2
  have : P q = P b := by simpa using he
  simp; omega
theorem best_start (P A : Nat → Int) : Best P A 1 0 := by
  refine ⟨by omega, fun j hj => ?_, fun j hj => by omega⟩
  obtain rfl : j = 0 := by omega
  rw [less_false]; omega
theorem best_no {P A : Nat → Int} {k b : Nat} (h : Best P A k b) (hl : lessB (P k) (A k) (P b) (A b) = false) : Best P A (k + 1) b := by
  refine ⟨by have := h.1; omega, fun j hj => ?_, h.2.2⟩
  by_cases e : j = k
  · subst e; exact hl
  · exact h.2.1 j (by omega)
theorem best_yes {P A : Nat → Int} {k b : Nat} (h : Best P A k b) (hl : lessB (P k) (A k) (P b) (A b) = true) : Best P A (k + 1) k := by
  rw [less_true] at hl
  refine ⟨by omega, fun j hj => ?_, fun j hj => ?_⟩
  · by_cases e : j = k
    · subst e; rw [less_false]; omega
    · have := h.2.1 j (by omega)
      rw [less_false] at this ⊢
      omega
  · have := h.2.1 j hj
    rw [less_false] at this
    rw [less_true]
    omega

set_option maxHeartbeats 1000000 in
set_option maxRecDepth 100000 in
theorem core (w : World) (x0 x1 : Addr) (n c0 c1 : Nat) (P A : Nat → Int) (hn0 : 0 < n) (hn : n ≤ 65536)
    (h0 : ∀ i, i < n → w.cell? (x0.add i) = some (.int .i64 (P i))) (h1 : ∀ i, i < n → w.cell? (x1.add i) = some (.int .u64 (A i))) :
    Calls Try.prog 4 #[.slice (some x0) n c0, .slice (some x1) n c1] w fun e w' => e = .returned (.bool true) ∧ Below w.heap.size w w' := by
  have hmk := run_make_row' (P := Try.prog) 22 3 (.int .i64 0) 8 Try.underlying22 info3 rfl .i64 .i64 n (by omega) (by omega)
  have hmk' := run_make_row' (P := Try.prog) 23 29 (.int .u64 0) 8 Try.underlying23 info29 rfl .i64 .i64 n (by omega) (by omega)
  have q22 : ∀ (w : World) (a : Option Addr) (n c n' c' : Nat), (binOp .neq 22 (.slice a n c) (.slice none n' c')).run Try.prog w = .ok (.bool (!a.isNone)) w := fun w a n c n' c' => run_neq_slice_nil_any w _ _ a n c n' c' Try.underlying22
  have q23 : ∀ (w : World) (a : Option Addr) (n c n' c' : Nat), (binOp .neq 23 (.slice a n c) (.slice none n' c')).run Try.prog w = .ok (.bool (!a.isNone)) w := fun w a n c n' c' => run_neq_slice_nil_any w _ _ a n c n' c' Try.underlying23
  obtain ⟨w1, hcp1, hb1, hs1, hr1⟩ := made_copied (P := Try.prog) w 22 22 3 3 Try.underlying22 size3 n c0 x0 (.int .i64 0) (fun j => .int .i64 (P j)) h0 (fun _ _ => rfl)
  obtain ⟨w2, hcp2, hb2, hs2, hr2⟩ := made_copied (P := Try.prog) w1 23 23 3 29 Try.underlying23 size29 n c1 x1 (.int .u64 0) (fun j => .int .u64 (A j)) (fun j hj => below_some hb1 (h1 j hj)) (fun _ _ => rfl)
  have hr1' := below_row hb2 hr1 (by omega)
  have hb : Below w.heap.size w w2 := hb1.trans (hb2.mono (by omega))
  have HS : Hid (w1.heap.size = w.heap.size + 1 ∧ w2.heap.size = w.heap.size + 2) := ⟨hs1, by omega⟩
  have HR : Hid (w2.rowIs w.heap.size 3 n (fun j => .int .i64 (P j)) ∧ w2.rowIs w1.heap.size 29 n (fun j => .int .u64 (A j))) := ⟨hr1', hr2⟩
  clear h0 h1 hb1 hb2 hs1 hs2 hr1 hr2 hr1'
  have hn0' : ((n : Int) == 0) = false := by simp; omega
  go_enter Try.func4, Try.ntmps4
  go_wp2_with (first | (go_at_call 12; refine (bytes12_yes _ _ _ _ _ _ _ (by omega)).mono ?_; rintro e w' ⟨rfl, rfl⟩) | (go_at_call 10; refine (new_any w2 w.heap.size w1.heap.size n P A hn HR.out.1 HR.out.2).mono ?_))
  rintro e w3 ⟨rfl, hb3, hQ⟩
  have HR3 : Hid (w3.rowIs w.heap.size 3 n (fun j => .int .i64 (P j)) ∧ w3.rowIs w1.heap.size 29 n (fun j => .int .u64 (A j))) :=
    ⟨below_row hb3 HR.out.1 (by have := HS.out; omega), below_row hb3 HR.out.2 (by have := HS.out; omega)⟩
  have hbw : Below w.heap.size w w3 := hb.trans (hb3.mono (by have := HS.out; omega))
  have HQ : Hid (Queue w3 w2.heap.size n (fun j => j) (fun j => (j : Int)) P A) := hQ
  clear hQ HR hb hb3 hcp1 hcp2 hmk hmk' q22 q23 hn0'
  go_wp2
  go_loopw [9, 10] (fun b i wr => ∃ k v m : Nat, 1 ≤ k ∧ k ≤ n ∧ i = .int .i64 k ∧ b = .int .i64 v ∧ Best P A k v ∧ wr = w3.drewN m) (fun _ i _ => n - (intOf i).toNat)
  case atStart => exact ⟨1, 0, 0, by omega, by omega, rfl, rfl, best_start P A, rfl⟩
  case round =>
    obtain ⟨k, b, m, hk1, hk, rfl, rfl, hB, rfl⟩ := hrel
    have hbk := hB.1
    have HB : Hid (Best P A k b) := hB
    clear hB
    have hQm : Queue (w3.drewN m) w2.heap.size n (fun j => j) (fun j => (j : Int)) P A := queue_alike HQ.out rfl
    have HQm : Hid (Queue (w3.drewN m) w2.heap.size n (fun j => j) (fun j => (j : Int)) P A) := hQm
    clear hQm
    by_cases hlt : k < n
    · cases hl : lessB (P k) (A k) (P b) (A b)
      · go_wp2_with (first | (go_at_call 11; refine (less_any _ _ n _ _ P A HQm.out hn k b hlt (by omega) hlt (by omega)).mono ?_; rintro e w' ⟨rfl, m', rfl⟩))
        go_roundw
        case rel => exact ⟨k + 1, b, _, by omega, by omega, by go_num, rfl, best_no HB.out hl, rfl⟩
        case measure => simp [intOf]; omega
      · go_wp2_with (first | (go_at_call 11; refine (less_any _ _ n _ _ P A HQm.out hn k b hlt (by omega) hlt (by omega)).mono ?_; rintro e w' ⟨rfl, m', rfl⟩))
        go_roundw
        case rel => exact ⟨k + 1, k, _, by omega, by omega, by go_num, rfl, best_yes HB.out hl, rfl⟩
        case measure => simp [intOf]; omega
    · obtain rfl : k = n := by omega
      clear HQm
      go_wp2
      go_loopw [11] (fun i wr => ∃ q m : Nat, q ≤ k ∧ i = .int .i64 q ∧ wr = w3.drewN m) (fun i _ => k - (intOf i).toNat)
      case atStart => exact ⟨0, m, by omega, rfl, rfl⟩
      case round =>
        obtain ⟨q, m, hq, rfl, rfl⟩ := hrel
        have hQm : Queue (w3.drewN m) w2.heap.size k (fun j => j) (fun j => (j : Int)) P A := queue_alike HQ.out rfl
        have HQm : Hid (Queue (w3.drewN m) w2.heap.size k (fun j => j) (fun j => (j : Int)) P A) := hQm
        clear hQm
        by_cases hlt : q < k
        · have hl := HB.out.2.1 q hlt
          go_wp2_with (first | (go_at_call 11; refine (less_any _ _ k _ _ P A HQm.out hn q b hlt (by omega) hlt (by omega)).mono ?_; rintro e w' ⟨rfl, m', rfl⟩))
          go_roundw
          case rel => exact ⟨q + 1, _, by omega, by go_num, rfl⟩
          case measure => simp [intOf]; omega
        · clear HQm
          have hc0 : w3.cell? ⟨w.heap.size, 0, none⟩ = some (.int .i64 (P 0)) := HR3.out.1.cell hn0
          go_wp2
          go_loop [12, 13] (fun mp i => ∃ (q : Nat) (M : Int), 1 ≤ q ∧ q ≤ k ∧ i = .int .i64 q ∧ mp = .int .i64 M ∧ MaxOf P q M) (fun _ i => k - (intOf i).toNat)
          case atStart => exact ⟨1, P 0, by omega, by omega, rfl, rfl, max_start P⟩
          case round =>
            obtain ⟨r, M, hr1, hr, rfl, rfl, hM⟩ := hrel
            have HM : Hid (MaxOf P r M) := hM
            clear hM
            by_cases hlt : r < k
            · have hc := HR3.out.1.cell hlt
              by_cases hgt : M < P r
              · go_wp2
                go_round
                case rel => exact ⟨r + 1, P r, by omega, by omega, by go_num, rfl, max_yes HM.out hgt⟩
                case measure => simp [intOf]; omega
              · go_wp2
                go_round
                case rel => exact ⟨r + 1, M, by omega, by omega, by go_num, rfl, max_no HM.out hgt⟩
                case measure => simp [intOf]; omega
            · obtain rfl : r = k := by omega
              have hMb : M = P b := max_best HB.out HM.out
              rw [hMb]
              clear hMb
              go_wp2
              go_loop [14, 15, 16] (fun fd mn i => ∃ (t : Nat) (f : Bool) (mA : Int), t ≤ r ∧ i = .int .i64 t ∧ fd = .bool f ∧ mn = .int .u64 mA ∧ MinOf P A (P b) t f mA) (fun _ _ i => r - (intOf i).toNat)
              case atStart => exact ⟨0, false, 0, by omega, rfl, rfl, rfl, min_start P A (P b)⟩
              case round =>
                obtain ⟨t, f, mA, ht, rfl, rfl, rfl, hN⟩ := hrel
                have HN : Hid (MinOf P A (P b) t f mA) := hN
                clear hN
                by_cases hlt : t < r
                · have hc := HR3.out.1.cell hlt
                  have hd := HR3.out.2.cell hlt
                  cases he : (P t == P b)
                  · go_wp2
                    go_round
                    case rel => exact ⟨t + 1, f, mA, by omega, by go_num, rfl, rfl, min_skip HN.out he⟩
                    case measure => simp [intOf]; omega
                  · cases f
                    · go_wp2
                      go_round
                      case rel => exact ⟨t + 1, true, A t, by omega, by go_num, rfl, rfl, min_first HN.out he⟩
                      case measure => simp [intOf]; omega
                    · by_cases hl : A t < mA
                      · go_wp2
                        go_round
                        case rel => exact ⟨t + 1, true, A t, by omega, by go_num, rfl, rfl, min_less HN.out he hl⟩
                        case measure => simp [intOf]; omega
                      · go_wp2
                        go_round
                        case rel => exact ⟨t + 1, true, mA, by omega, by go_num, rfl, rfl, min_keep HN.out hl⟩
                        case measure => simp [intOf]; omega
                · obtain rfl : t = r := by omega
                  have hmb : f = true ∧ mA = A b := min_best HB.out HN.out
                  obtain ⟨rfl, rfl⟩ := hmb
                  clear HN HM
                  go_wp2
                  go_loop [17, 18] (fun wn i => ∃ q : Nat, q ≤ b ∧ i = .int .i64 q ∧ wn = .int .i64 (-1)) (fun _ i => t - (intOf i).toNat)
                  case atStart => exact ⟨0, by omega, rfl, rfl⟩
                  case round =>
                    obtain ⟨q, hq, rfl, rfl⟩ := hrel
                    have hqt : q < t := by omega
                    have hc := HR3.out.1.cell hqt
                    have hd := HR3.out.2.cell hqt
                    by_cases e : q = b
                    · subst e
                      go_wp2
                      go_ret
                      exact ⟨rfl, below_drawn hbw _⟩
                    · have hne := key_ne HB.out (show q < b by omega)
                      cases he : (P q == P b)
                      · go_wp2
                        go_round
                        case rel => exact ⟨q + 1, by omega, by go_num, rfl⟩
                        case measure => simp [intOf]; omega
                      · have ha := hne he
                        clear hne
                        go_wp2
                        go_round
                        case rel => exact ⟨q + 1, by omega, by go_num, rfl⟩
                        case measure => simp [intOf]; omega

theorem row_le {k : IntKind} {w : World} {a : Option Addr} {len cap : Nat} {zs : List Int} (h : IsRow k w a len cap zs) : len ≤ 9223372036854775807 := by
  rcases h with ⟨_, rfl, _⟩ | ⟨x, _, h1, h2, _⟩
  · omega
  · unfold maxLen at h2; omega
theorem row_at {k : IntKind} {w : World} {a : Option Addr} {len cap : Nat} {zs : List Int} (h : IsRow k w a len cap zs) (h0 : 0 < len) :
    ∃ x, a = some x ∧ ∀ i, i < len → w.cell? (x.add i) = some (.int k (zs.getD i 0)) := by
  rcases h with ⟨_, rfl, _⟩ | ⟨x, e, h1, _, h3, h4, _⟩
  · omega
  · exact ⟨x, e, fun i hi => h4 i (by omega)⟩

/-! ### THE WALK -/
set_option maxRecDepth 100000 in
theorem walk (a0 : Option Addr) (len0 cap0 : Nat) (z0 : List Int) (a1 : Option Addr) (len1 cap1 : Nat) (z1 : List Int) (w : World) (w0 : IsRow .i64 w a0 len0 cap0 z0) (w1 : IsRow .u64 w a1 len1 cap1 z1) :
    Calls Try.prog 4 #[.slice a0 len0 cap0, .slice a1 len1 cap1] w fun e w' => e = .returned (.bool true) ∧ Below w.heap.size w w' := by
  have m0 := row_le w0
  have m1 := row_le w1
  by_cases c1 : 1048576 < len0 + len1
  · clear w0 w1
    go_enter Try.func4, Try.ntmps4
    go_wp2_with (go_at_call 12; refine (bytes12_no _ _ _ _ _ _ _ m0 m1 c1).mono ?_; rintro e w' ⟨rfl, rfl⟩)
    go_ret
    exact ⟨rfl, Below.refl _ _⟩
  by_cases c2 : 65536 < len0
  · clear w0 w1
    go_enter Try.func4, Try.ntmps4
    go_wp2_with (go_at_call 12; refine (bytes12_yes _ _ _ _ _ _ _ (by omega)).mono ?_; rintro e w' ⟨rfl, rfl⟩)
    go_ret
    exact ⟨rfl, Below.refl _ _⟩
  by_cases c3 : 65536 < len1
  · clear w0 w1
    go_enter Try.func4, Try.ntmps4
    go_wp2_with (go_at_call 12; refine (bytes12_yes _ _ _ _ _ _ _ (by omega)).mono ?_; rintro e w' ⟨rfl, rfl⟩)
    go_ret
    exact ⟨rfl, Below.refl _ _⟩
  by_cases c4 : len0 = len1
  · subst c4
    by_cases c5 : len0 = 0
    · subst c5
      clear w0 w1
      go_enter Try.func4, Try.ntmps4
      go_wp2_with (go_at_call 12; refine (bytes12_yes _ _ _ _ _ _ _ (by omega)).mono ?_; rintro e w' ⟨rfl, rfl⟩)
      go_ret
      exact ⟨rfl, Below.refl _ _⟩
    · obtain ⟨x0, rfl, h0⟩ := row_at w0 (by omega)
      obtain ⟨x1, rfl, h1⟩ := row_at w1 (by omega)
      exact core w x0 x1 len0 cap0 cap1 (fun i => z0.getD i 0) (fun i => z1.getD i 0) (by omega) (by omega) h0 h1
  · have c5 : ((len0 : Int) != (len1 : Int)) = true := by simp; omega
    clear w0 w1 c4
    go_enter Try.func4, Try.ntmps4
    go_wp2_with (go_at_call 12; refine (bytes12_yes _ _ _ _ _ _ _ (by omega)).mono ?_; rintro e w' ⟨rfl, rfl⟩)
    go_ret
    exact ⟨rfl, Below.refl _ _⟩

/-! ### THE ROW's STEP: WRITTEN OUT: LEAVE IT -/
set_option maxRecDepth 100000 in
theorem lifted (os : Os) (started : os.Started) (H : Type) (enc : TypeId × Value → H) :
    ReturnsInHanded {} Try.checked os 4 .any (Rows.fnLessScanFindsServeFirstSpec.pre6 enc Try.prog Try.f4 Rows.fnLessScanFindsServeFirstRow.domain false) (Rows.fnLessScanFindsServeFirstSpec.post enc Try.prog Try.f4 false true false false) := by
  refine returnsInHanded_of_change (C := Try.checked) own started (by kernel_rfl) Try.func4
    (ChangeSpec.witness6 (enc := enc) (C := Try.checked) false ⟨#[], #[.slice none 0 0, .slice none 0 0], []⟩ 8 (by kernel_rfl) (by kernel_rfl) (by kernel_rfl) (by kernel_rfl)) ?_
  intro W base args ds gs before hval0 hW hcnd _
  have hval : ∀ (j : Nat) t v, Try.f4.params[j]? = some t → args[j]? = some v → Value.okWide Try.prog W .any base t v := hval0
  have hW' := hW
  obtain ⟨p, q, hA0, hV, rfl, hfz, hnd⟩ := hW
  have hA : DataW.TrodAll enc Try.prog W 0 (fun _ => true) true Try.f4.params.toList args.toList ds p := hA0
  rw [Try.params4] at hA hval
  obtain ⟨v0, vs0, d0, ds0, p0, q0, hargs, rfl, rfl, h0, r0⟩ := trodAll_cons hA
  obtain ⟨v1, vs1, d1, ds1, p1, q1, rfl, rfl, rfl, h1, r1⟩ := trodAll_cons r0
  obtain ⟨rfl, rfl, rfl⟩ := trodAll_nil r1
  obtain rfl : args = #[v0, v1] := by cases args; simp_all
  obtain ⟨rfl, rfl⟩ := trodVars_none hV
  obtain ⟨a0, len0, cap0, rfl⟩ := okWide_slice Try.underlying22 (hval 0 22 v0 rfl rfl)
  have k0 := h0
  have lt0 : ∀ x ∈ p0, x.block < W.heap.size := by obtain ⟨m, hm⟩ := k0; exact DataW.trod_lt m _ _ _ hm
  obtain ⟨z0, w0⟩ : ∃ zs, IsRow .i64 W a0 len0 cap0 zs := by
    obtain ⟨fuel, hf⟩ := h0
    rcases open_ints Try.underlying22 Try.underlying3 (by kernel_rfl) hf with ⟨hcs, _⟩ | ⟨x, l, c, zs, hcs, _, hl, hm, hz, _, hcell, hwz⟩
    · simp [Value.cells] at hcs
      obtain ⟨rfl, rfl, rfl⟩ := hcs
      exact ⟨[], .inl ⟨rfl, rfl, rfl, rfl⟩⟩
    · simp [Value.cells] at hcs
      obtain ⟨rfl, rfl, rfl⟩ := hcs
      exact ⟨zs, .inr ⟨_, rfl, hl, hm, by simpa using hz, hcell, hwz⟩⟩
  obtain ⟨a1, len1, cap1, rfl⟩ := okWide_slice Try.underlying23 (hval 1 23 v1 rfl rfl)
  have k1 := h1
  have lt1 : ∀ x ∈ p1, x.block < W.heap.size := by obtain ⟨m, hm⟩ := k1; exact DataW.trod_lt m _ _ _ hm
  obtain ⟨z1, w1⟩ : ∃ zs, IsRow .u64 W a1 len1 cap1 zs := by
    obtain ⟨fuel, hf⟩ := h1
    rcases open_ints Try.underlying23 Try.underlying29 (by kernel_rfl) hf with ⟨hcs, _⟩ | ⟨x, l, c, zs, hcs, _, hl, hm, hz, _, hcell, hwz⟩
    · simp [Value.cells] at hcs
      obtain ⟨rfl, rfl, rfl⟩ := hcs
      exact ⟨[], .inl ⟨rfl, rfl, rfl, rfl⟩⟩
    · simp [Value.cells] at hcs
      obtain ⟨rfl, rfl, rfl⟩ := hcs
      exact ⟨zs, .inr ⟨_, rfl, hl, hm, by simpa using hz, hcell, hwz⟩⟩
  clear hA0 hval0
  refine (walk a0 len0 cap0 z0 a1 len1 cap1 z1 W w0 w1).mono fun e W' ⟨he, bel⟩ => ?_
  subst he
  exact ⟨_, rfl, _, _, _, [], _, [], hW', trodAll_mk1 (shut_bool Try.underlying4 _), (trodAll_cons_mk (Below.trod laidOut (by kernel_rfl) (of_decide_eq_true (by kernel_rfl)) k0 bel lt0) (trodAll_cons_mk (Below.trod laidOut (by kernel_rfl) (of_decide_eq_true (by kernel_rfl)) k1 bel lt1) trodAll_mk0)), rfl, bel.frame _, fun h => by cases h⟩

theorem over : Rows.fnLessScanFindsServeFirstRow.holds Try.pinned (OpenSpec.ofChange Rows.fnLessScanFindsServeFirstSpec) :=
  OpenClaim.holds_of_wide 4 Try.f4 rfl rfl rfl rfl rfl rfl rfl ⟨rfl, rfl, rfl, rfl, rfl⟩ rfl rfl rfl rfl rfl (by kernel_rfl) Try.func4 (by kernel_rfl)
    (of_decide_eq_true (by kernel_rfl)) (by unfold Func.isWrapper; first | (rw [if_pos (by decide +kernel)]; kernel_rfl) | (rw [if_neg (by decide +kernel)]; exact ⟨rfl, rfl⟩))
    (fun os started H enc _ => lifted os started H enc)

/-- THE STATEMENT -/
theorem proved : Rows.FnLessScanFindsServeFirstSaid := over
#print axioms proved
end Go.Proofs.Qxb6618956a.fnLessScanFindsServeFirst
