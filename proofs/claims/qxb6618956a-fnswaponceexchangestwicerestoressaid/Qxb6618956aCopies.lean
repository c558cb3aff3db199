import Derived.Test.Qxb6618956aWaiters
import Derived.ShutString
import Derived.ChangeOld
import Derived.Below
import Derived.Laws.CopyOwn
namespace Go.Proofs.Qxb6618956a.waiters
open Go.ChangeShapes Go.WideShapes Go.ChangeAt Go.RowKit
set_option linter.unusedVariables false

/-- 'copy(zzc, xs)' into a fresh row of the same length: the world behind it is a variable of which only what is needed is told. -/
theorem copy_run {P : Program} (w : World) (dT sT ty elem : TypeId) (hu : P.underlying dT = some (.slice elem)) (hsz : (P.info? elem).map (·.size) = some 1)
    (g n dCap sCap : Nat) (ad : Addr) (t : TypeId) (f0 f : Nat → Value) (hrow : w.rowIs g t n f0) (hsrc : ∀ j, j < n → w.cell? (ad.add j) = some (f j)) (h1 : ∀ j, j < n → (f j).oneCell' = true) :
    ∃ w', (Builtin.copy_ #[dT, sT] ty #[.slice (some ⟨g, 0, none⟩) n dCap, .slice (some ad) n sCap]).run P w = .ok (goInt n) w' ∧ Below g w w' ∧ w'.heap.size = w.heap.size ∧ w'.rowIs g t n f := by
  obtain ⟨cur, hg, hn, _⟩ := hrow
  have hlen : ((List.range n).map f).length = n := by simp
  have hget : ∀ j v, ((List.range n).map f)[j]? = some v → j < n ∧ v = f j := by
    intro j v hj
    have hlt : j < n := by
      have := (List.getElem?_eq_some_iff.1 hj).1
      simpa using this
    refine ⟨hlt, ?_⟩
    simp [hlt] at hj
    exact hj.symm
  have hrun := run_copy_row (P := P) w dT sT ty elem g 0 n dCap ad n sCap cur t ((List.range n).map f) hu hsz hg (by simp)
    (fun j v hj => by obtain ⟨hlt, rfl⟩ := hget j v hj; exact hsrc j hlt) (by simp; omega)
    (fun v hv => by obtain ⟨j, hj, rfl⟩ := List.mem_map.1 hv; exact h1 j (by simpa using hj))
  rw [hlen] at hrun
  refine ⟨_, hrun, below_setRow (Below.refl _ _) (Nat.le_refl _) _, by simp [World.setRow], ?_⟩
  refine ⟨_, setRow_heap w g cur _ t (0, 0) hg, by simp; omega, ?_⟩
  intro i hi
  simp [List.getElem?_append, hi]

/-- a new row, and a copy of what 'x' leads to laid into it -/
theorem made_copied {P : Program} (w : World) (dT sT ty elem : TypeId) (hu : P.underlying dT = some (.slice elem)) (hsz : (P.info? elem).map (·.size) = some 1)
    (n sCap : Nat) (x : Addr) (z : Value) (f : Nat → Value) (hsrc : ∀ j, j < n → w.cell? (x.add j) = some (f j)) (h1 : ∀ j, j < n → (f j).oneCell' = true) :
    ∃ w', (Builtin.copy_ #[dT, sT] ty #[.slice (some ⟨w.heap.size, 0, none⟩) n n, .slice (some x) n sCap]).run P (w.alloc (.cells (madeCells #[z] n) elem)) = .ok (goInt n) w' ∧
      Below w.heap.size w w' ∧ w'.heap.size = w.heap.size + 1 ∧ w'.rowIs w.heap.size elem n f := by
  obtain ⟨w', h1, h2, h3, h4⟩ := copy_run (w.alloc (.cells (madeCells #[z] n) elem)) dT sT ty elem hu hsz w.heap.size n n sCap x elem (fun _ => z) f (World.rowIs_made w z n elem)
    (fun j hj => Lib.cell?_alloc_some _ (hsrc j hj)) h1
  exact ⟨w', h1, ((Below.refl _ _).alloc (Nat.le_refl _) _).trans h2, by rw [h3]; simp, h4⟩

theorem below_some {w w1 : World} (hb : Below w.heap.size w w1) {a : Addr} {v : Value} (h : w.cell? a = some v) : w1.cell? a = some v := by
  have hlt : a.block < w.heap.size := by
    rcases Nat.lt_or_ge a.block w.heap.size with h' | h'
    · exact h'
    · simp [World.cell?, Array.getElem?_eq_none h'] at h
  rw [hb.cell hlt]; exact h

theorem below_row {w w1 : World} {B b n : Nat} {t : TypeId} {f : Nat → Value} (hb : Below B w w1) (h : w.rowIs b t n f) (hlt : b < B) : w1.rowIs b t n f :=
  h.of_block (hb.block b hlt)

theorem info3 : (Try.prog.info? 3).map (fun i => (i.zero, i.size, i.bytes)) = some (some (.int .i64 0), 1, 8) := by kernel_rfl
theorem info29 : (Try.prog.info? 29).map (fun i => (i.zero, i.size, i.bytes)) = some (some (.int .u64 0), 1, 8) := by kernel_rfl
theorem size3 : (Try.prog.info? 3).map (·.size) = some 1 := by kernel_rfl
theorem size29 : (Try.prog.info? 29).map (·.size) = some 1 := by kernel_rfl

/-! ### the two guards on the lengths -/
theorem bytes12_yes (a0 a1 : Option Addr) (l0 c0 l1 c1 : Nat) (w : World) (h : l0 + l1 ≤ 1048576) :
    Calls Try.prog 12 #[.slice a0 l0 c0, .slice a1 l1 c1] w fun e w' => e = .returned (.bool true) ∧ w = w' := by
  have h0 : (l0 : Int) ≤ 1048576 := by omega
  have h1 : (l1 : Int) ≤ 1048576 := by omega
  have h2 : (l0 : Int) + (l1 : Int) ≤ 1048576 := by omega
  go_enter Try.func12, Try.ntmps12
  go_wp2
  go_ret
  exact ⟨rfl, rfl⟩

theorem bytes12_no (a0 a1 : Option Addr) (l0 c0 l1 c1 : Nat) (w : World) (m0 : l0 ≤ 9223372036854775807) (m1 : l1 ≤ 9223372036854775807) (h : 1048576 < l0 + l1) :
    Calls Try.prog 12 #[.slice a0 l0 c0, .slice a1 l1 c1] w fun e w' => e = .returned (.bool false) ∧ w = w' := by
  have h2 : 1048576 < (l0 : Int) + (l1 : Int) := by omega
  by_cases h0 : 1048576 < l0
  · go_enter Try.func12, Try.ntmps12
    go_wp2
    go_ret
    exact ⟨rfl, rfl⟩
  · by_cases h1 : 1048576 < l1
    · go_enter Try.func12, Try.ntmps12
      go_wp2
      go_ret
      exact ⟨rfl, rfl⟩
    · go_enter Try.func12, Try.ntmps12
      go_wp2
      go_ret
      exact ⟨rfl, rfl⟩

theorem bytes13_yes (a0 a1 : Option Addr) (l0 c0 l1 c1 : Nat) (i j : Int) (w : World) (h : l0 + l1 ≤ 1048576) :
    Calls Try.prog 13 #[.slice a0 l0 c0, .slice a1 l1 c1, .int .i64 i, .int .i64 j] w fun e w' => e = .returned (.bool true) ∧ w = w' := by
  have h0 : (l0 : Int) ≤ 1048576 := by omega
  have h1 : (l1 : Int) ≤ 1048576 := by omega
  have h2 : (l0 : Int) + (l1 : Int) ≤ 1048576 := by omega
  go_enter Try.func13, Try.ntmps13
  go_wp2
  go_ret
  exact ⟨rfl, rfl⟩

theorem bytes13_no (a0 a1 : Option Addr) (l0 c0 l1 c1 : Nat) (i j : Int) (w : World) (m0 : l0 ≤ 9223372036854775807) (m1 : l1 ≤ 9223372036854775807) (h : 1048576 < l0 + l1) :
    Calls Try.prog 13 #[.slice a0 l0 c0, .slice a1 l1 c1, .int .i64 i, .int .i64 j] w fun e w' => e = .returned (.bool false) ∧ w = w' := by
  have h2 : 1048576 < (l0 : Int) + (l1 : Int) := by omega
  by_cases h0 : 1048576 < l0
  · go_enter Try.func13, Try.ntmps13
    go_wp2
    go_ret
    exact ⟨rfl, rfl⟩
  · by_cases h1 : 1048576 < l1
    · go_enter Try.func13, Try.ntmps13
      go_wp2
      go_ret
      exact ⟨rfl, rfl⟩
    · go_enter Try.func13, Try.ntmps13
      go_wp2
      go_ret
      exact ⟨rfl, rfl⟩
