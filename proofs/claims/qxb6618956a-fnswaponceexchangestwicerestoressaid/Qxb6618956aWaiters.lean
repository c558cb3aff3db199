import Derived.Test.Qxb6618956aRows
import Derived.WalkKit
import Derived.ProofKit
import Derived.OpenShut
import Derived.WalkSpells
import Derived.BigRegion
import Derived.Deep.OwnRows
import Derived.Deep.QuietTactic
import Derived.BigQuiet
namespace Go.Proofs.Qxb6618956a.waiters
set_option linter.unusedVariables false
open Go.ChangeShapes Go.WideShapes Go.ChangeAt Go.RowKit

/-- a waiter's four cells -/
def wtr (p a i : Int) (c : Nat) : Nat → Value
  | 0 => .int .i64 p
  | 1 => .int .u64 a
  | 2 => .int .i64 i
  | _ => .chan (some c)

/-- THE QUEUE IN MEMORY: block B is the row of pointers (place j leads to waiter 'π j'); waiter j lies in block B + 2 + 2 j. -/
def Queue (w : World) (B n : Nat) (π : Nat → Nat) (I P A : Nat → Int) : Prop :=
  w.rowIs B 41 n (fun j => .pointer (some ⟨B + 2 + 2 * π j, 0, none⟩)) ∧
  ∀ j, j < n → w.rowIs (B + 2 + 2 * j) 44 4 (wtr (P j) (A j) (I j) (B + 1 + 2 * j))

theorem info41 : (Try.prog.info? 41).map (fun i => (i.zero, i.size, i.bytes)) = some (some (.pointer none), 1, 8) := by kernel_rfl
theorem makes_chan (w : World) : (Instr.makeChan 42 (.int .i64 0)).run Try.prog w = .ok (.chan (some w.heap.size)) (w.alloc (.chan 0 #[] false 0 0 false)) := by kernel_rfl

/-- the relation of the loop that fills the queue -/
def Filling (w : World) (n : Nat) (P A : Nat → Int) (k : Nat) (wr : World) : Prop :=
  Below w.heap.size w wr ∧ wr.heap.size = w.heap.size + 1 + 2 * k ∧
  wr.rowIs w.heap.size 41 n (fun j => if j < k then .pointer (some ⟨w.heap.size + 2 + 2 * j, 0, none⟩) else .pointer none) ∧
  ∀ j, j < k → wr.rowIs (w.heap.size + 2 + 2 * j) 44 4 (wtr (P j) (A j) (j : Int) (w.heap.size + 1 + 2 * j))

theorem filling_start (w : World) (n : Nat) (P A : Nat → Int) : Filling w n P A 0 (w.alloc (.cells (madeCells #[.pointer none] n) 41)) := by
  refine ⟨(Below.refl _ _).alloc (Nat.le_refl _) _, by simp, ?_, fun j hj => by omega⟩
  exact (World.rowIs_made w (.pointer none) n 41).congr fun j _ => by simp

theorem filling_step {w wr : World} {n k : Nat} {P A : Nat → Int} (hF : Filling w n P A k wr) :
    Filling w n P A (k + 1) (((wr.setCell ⟨w.heap.size, k, none⟩ (.pointer (some ⟨wr.heap.size + 1, 0, none⟩))).alloc (.chan 0 #[] false 0 0 false)).alloc
      (.cells #[.int .i64 (P k), .int .u64 (A k), .int .i64 (k : Int), .chan (some wr.heap.size)] 44)).drew := by
  obtain ⟨hb, hs, hq, hw⟩ := hF
  have hs1 : (wr.setCell ⟨w.heap.size, k, none⟩ (.pointer (some ⟨wr.heap.size + 1, 0, none⟩))).heap.size = wr.heap.size := by simp [World.setCell]
  refine ⟨((hb.setCell (Nat.le_refl _) _).alloc (by rw [hs1]; omega) _ |>.alloc (by simp [hs1]; omega) _).drew, ?_, ?_, ?_⟩
  · show ((((wr.setCell _ _).alloc _).alloc _)).heap.size = _
    simp [hs1]; omega
  · refine (((hq.set k _).alloc _).alloc _).drew.congr fun j _ => ?_
    by_cases e : j = k
    · subst e; simp
    · by_cases l : j < k
      · simp [e, l, Nat.lt_succ_of_lt l]
      · have l' : ¬ j < k + 1 := by omega
        simp [e, l, l']
  · intro j hj
    by_cases e : j = k
    · subst e
      have h := World.rowIs_alloc ((wr.setCell ⟨w.heap.size, j, none⟩ (.pointer (some ⟨wr.heap.size + 1, 0, none⟩))).alloc (.chan 0 #[] false 0 0 false))
        #[.int .i64 (P j), .int .u64 (A j), .int .i64 (j : Int), .chan (some wr.heap.size)] 44 (wtr (P j) (A j) (j : Int) (w.heap.size + 1 + 2 * j)) ?_
      · have e2 : ((wr.setCell ⟨w.heap.size, j, none⟩ (.pointer (some ⟨wr.heap.size + 1, 0, none⟩))).alloc (.chan 0 #[] false 0 0 false)).heap.size = w.heap.size + 2 + 2 * j := by simp [hs1]; omega
        rw [e2] at h
        exact h.drew
      · intro i hi
        simp at hi
        match i, hi with
        | 0, _ => rfl
        | 1, _ => rfl
        | 2, _ => rfl
        | 3, _ => simp [wtr, hs]
    · exact (((hw j (by omega)).setOther (by simp; omega) _).alloc _ |>.alloc _).drew

theorem filling_done {w wr : World} {n : Nat} {P A : Nat → Int} (hF : Filling w n P A n wr) : Queue wr w.heap.size n (fun j => j) (fun j => (j : Int)) P A :=
  ⟨hF.2.2.1.congr fun j hj => by simp [hj], hF.2.2.2⟩

set_option maxHeartbeats 1000000 in
theorem new_any (w : World) (b0 b1 n : Nat) (P A : Nat → Int) (hn : n ≤ 65536) (h0 : w.rowIs b0 3 n (fun j => .int .i64 (P j))) (h1 : w.rowIs b1 29 n (fun j => .int .u64 (A j))) :
    Calls Try.prog 10 #[.slice (some ⟨b0, 0, none⟩) n n, .slice (some ⟨b1, 0, none⟩) n n] w fun e w' =>
      e = .returned (.slice (some ⟨w.heap.size, 0, none⟩) n n) ∧ Below w.heap.size w w' ∧ Queue w' w.heap.size n (fun j => j) (fun j => (j : Int)) P A := by
  have hmk := run_make_row' (P := Try.prog) 26 41 (.pointer none) 8 Try.underlying26 info41 rfl .i64 .i64 n (by omega) (by omega)
  have hl0 := h0.lt
  have hl1 := h1.lt
  have H0 : Hid (w.rowIs b0 3 n (fun j => .int .i64 (P j))) := h0
  have H1 : Hid (w.rowIs b1 29 n (fun j => .int .u64 (A j))) := h1
  clear h0 h1
  go_enter Try.func10, Try.ntmps10
  go_wp2
  clear hmk
  go_loopw [12, 6] (fun i _ wr => ∃ k : Nat, k ≤ n ∧ i = .int .i64 k ∧ Filling w n P A k wr) (fun i _ _ => n - (intOf i).toNat)
  case atStart => exact ⟨0, Nat.zero_le _, rfl, filling_start w n P A⟩
  case round =>
    obtain ⟨k, hk, rfl, hF⟩ := hrel
    have HF : Hid (Filling w n P A k wr) := hF
    by_cases hlt : k < n
    · have hc0 : wr.cell? ⟨b0, k, none⟩ = some (.int .i64 (P k)) := (hF.1.cell (p := ⟨b0, k, none⟩) hl0).trans (H0.out.cell hlt)
      have hc1 : wr.cell? ⟨b1, k, none⟩ = some (.int .u64 (A k)) := (hF.1.cell (p := ⟨b1, k, none⟩) hl1).trans (H1.out.cell hlt)
      have hcq : wr.cell? ⟨w.heap.size, k, none⟩ = some (.pointer none) := by rw [hF.2.2.1.cell hlt]; simp
      have hfq : wr.frozen? ⟨w.heap.size, k, none⟩ = false := hF.2.2.1.frozen k
      have hs0 : b0 < wr.heap.size := by have := hF.2.1; omega
      have hs1 : b1 < wr.heap.size := by have := hF.2.1; omega
      have hs2 : w.heap.size < wr.heap.size := by have := hF.2.1; omega
      have hch := makes_chan
      clear hF
      go_wp2
      go_region
      go_wp2
      go_roundw
      case rel => exact ⟨k + 1, by omega, by go_num, filling_step HF.out⟩
      case measure => simp [intOf]; omega
    · obtain rfl : k = n := by omega
      clear hF
      go_wp2
      go_ret
      exact ⟨rfl, HF.out.1, filling_done HF.out⟩

/-! ### Less: it reads alone -/
/-- the plain order: the greater priority first, then the earlier arrival -/
def lessB (p a p' a' : Int) : Bool := if p = p' then decide (a < a') else decide (p' < p)

theorem ret_bool {a b : Bool} (h : a = b) : Ending.returned (.bool a) = .returned (.bool b) := by rw [h]

set_option maxHeartbeats 1000000 in
theorem less_any (w : World) (B n : Nat) (π : Nat → Nat) (I P A : Nat → Int) (hQ : Queue w B n π I P A) (hn : n ≤ 65536) (i j : Nat) (hi : i < n) (hj : j < n) (hi' : π i < n) (hj' : π j < n) :
    Calls Try.prog 11 #[.slice (some ⟨B, 0, none⟩) n n, .int .i64 (i : Int), .int .i64 (j : Int)] w fun e w' =>
      e = .returned (.bool (lessB (P (π i)) (A (π i)) (P (π j)) (A (π j)))) ∧ ∃ m, w' = w.drewN m := by
  have ci := hQ.1.cell hi
  have cj := hQ.1.cell hj
  have pi := (hQ.2 (π i) hi').cell (i := 0) (by omega)
  have pj := (hQ.2 (π j) hj').cell (i := 0) (by omega)
  have ai := (hQ.2 (π i) hi').cell (i := 1) (by omega)
  have aj := (hQ.2 (π j) hj').cell (i := 1) (by omega)
  simp only [wtr] at pi pj ai aj
  have li : ((i : Int) < (n : Int)) := by omega
  have lj : ((j : Int) < (n : Int)) := by omega
  clear hQ
  by_cases hp : P (π i) = P (π j)
  · have HP : Hid (P (π i) = P (π j)) := hp
    have hne : (P (π i) != P (π j)) = false := by simpa using hp
    clear hp
    go_enter Try.func11, Try.ntmps11
    go_wp2
    go_quiet (fail)
    go_wp2
    go_quiet (fail)
    go_wp2
    go_ret
    exact ⟨ret_bool (by rw [lessB, if_pos HP.out]), _, World.drewN_drewN ..⟩
  · have HP : Hid (¬ P (π i) = P (π j)) := hp
    have hne : (P (π i) != P (π j)) = true := by simpa using hp
    clear hp
    go_enter Try.func11, Try.ntmps11
    go_wp2
    go_quiet (fail)
    go_wp2
    go_quiet (fail)
    go_wp2
    go_ret
    exact ⟨ret_bool (by rw [lessB, if_neg HP.out]), _, World.drewN_drewN ..⟩

/-! ### ZZwaiterAt: it reads alone -/
set_option maxHeartbeats 1000000 in
theorem at_any (w : World) (B n : Nat) (π : Nat → Nat) (I P A : Nat → Int) (hQ : Queue w B n π I P A) (hn : n ≤ 65536) (k : Nat) (hk : k < n) (hk' : π k < n) :
    Calls Try.prog 15 #[.slice (some ⟨B, 0, none⟩) n n, .int .i64 (k : Int)] w fun e w' =>
      e = .returned (.tuple #[.int .i64 (P (π k)), .int .u64 (A (π k)), .int .i64 (I (π k))]) ∧ ∃ m, w' = w.drewN m := by
  have ck := hQ.1.cell hk
  have pk := (hQ.2 (π k) hk').cell (i := 0) (by omega)
  have ak := (hQ.2 (π k) hk').cell (i := 1) (by omega)
  have ik := (hQ.2 (π k) hk').cell (i := 2) (by omega)
  simp only [wtr] at pk ak ik
  have lk : ((k : Int) < (n : Int)) := by omega
  clear hQ
  go_enter Try.func15, Try.ntmps15
  go_wp2
  go_quiet (fail)
  go_wp2
  go_ret3
  exact ⟨rfl, _, rfl⟩

/-! ### Swap: what its stores do to the queue -/
theorem queue_put {w : World} {B n : Nat} {π : Nat → Nat} {I P A : Nat → Int} (hQ : Queue w B n π I P A) (k m : Nat) :
    Queue (w.setCell ⟨B, k, none⟩ (.pointer (some ⟨B + 2 + 2 * m, 0, none⟩))) B n (fun x => if x = k then m else π x) I P A := by
  refine ⟨(hQ.1.set k _).congr fun x _ => ?_, fun j hj => (hQ.2 j hj).setOther (by simp; omega) _⟩
  by_cases e : x = k
  · subst e; simp
  · simp [e]

theorem queue_index {w : World} {B n : Nat} {π : Nat → Nat} {I P A : Nat → Int} (hQ : Queue w B n π I P A) (m : Nat) (v : Int) :
    Queue (w.setCell ⟨B + 2 + 2 * m, 2, none⟩ (.int .i64 v)) B n π (fun x => if x = m then v else I x) P A := by
  refine ⟨hQ.1.setOther (by simp; omega) _, fun j hj => ?_⟩
  by_cases e : j = m
  · subst e
    refine ((hQ.2 j hj).set 2 _).congr fun x hx => ?_
    match x, hx with
    | 0, _ => rfl
    | 1, _ => rfl
    | 2, _ => simp [wtr]
    | 3, _ => rfl
  · refine ((hQ.2 j hj).setOther (by simp; omega) _).congr fun x _ => ?_
    simp [e]

theorem queue_drew {w : World} {B n : Nat} {π : Nat → Nat} {I P A : Nat → Int} (hQ : Queue w B n π I P A) : Queue w.drew B n π I P A :=
  ⟨hQ.1.drew, fun j hj => (hQ.2 j hj).drew⟩

theorem queue_alike {w w' : World} {B n : Nat} {π : Nat → Nat} {I P A : Nat → Int} (hQ : Queue w B n π I P A) (e : w'.heap = w.heap) : Queue w' B n π I P A :=
  ⟨hQ.1.of_block (by rw [e]), fun j hj => (hQ.2 j hj).of_block (by rw [e])⟩

/-- the places, and the indices, behind Swap(i, j) -/
def swapπ (π : Nat → Nat) (i j : Nat) : Nat → Nat := fun x => if x = j then π i else if x = i then π j else π x
def swapI (I : Nat → Int) (π : Nat → Nat) (i j : Nat) : Nat → Int := fun x => if x = π i then (j : Int) else if x = π j then (i : Int) else I x

theorem queue_swap {w : World} {B n : Nat} {π : Nat → Nat} {I P A : Nat → Int} (hQ : Queue w B n π I P A) (i j : Nat) :
    Queue ((((w.setCell ⟨B, i, none⟩ (.pointer (some ⟨B + 2 + 2 * π j, 0, none⟩))).setCell ⟨B, j, none⟩ (.pointer (some ⟨B + 2 + 2 * π i, 0, none⟩))).setCell
      ⟨B + 2 + 2 * π j, 2, none⟩ (.int .i64 (i : Int))).setCell ⟨B + 2 + 2 * π i, 2, none⟩ (.int .i64 (j : Int))).drew B n (swapπ π i j) (swapI I π i j) P A :=
  queue_drew (queue_index (queue_index (queue_put (queue_put hQ i (π j)) j (π i)) (π j) (i : Int)) (π i) (j : Int))

theorem below_swap (w : World) (B : Nat) (π : Nat → Nat) (i j : Nat) :
    Below B w ((((w.setCell ⟨B, i, none⟩ (.pointer (some ⟨B + 2 + 2 * π j, 0, none⟩))).setCell ⟨B, j, none⟩ (.pointer (some ⟨B + 2 + 2 * π i, 0, none⟩))).setCell
      ⟨B + 2 + 2 * π j, 2, none⟩ (.int .i64 (i : Int))).setCell ⟨B + 2 + 2 * π i, 2, none⟩ (.int .i64 (j : Int))).drew :=
  (((((Below.refl B w).setCell (Nat.le_refl _) _).setCell (Nat.le_refl _) _).setCell (by simp; omega) _).setCell (by simp; omega) _).drew

/-! ### Swap: the walk -/
set_option maxHeartbeats 1000000 in
theorem swap_ne (w : World) (B n : Nat) (π : Nat → Nat) (I P A : Nat → Int) (hQ : Queue w B n π I P A) (hn : n ≤ 65536) (i j : Nat) (hi : i < n) (hj : j < n) (hi' : π i < n) (hj' : π j < n) (hij : i ≠ j) (hπ : π i ≠ π j) :
    Calls Try.prog 14 #[.slice (some ⟨B, 0, none⟩) n n, .int .i64 (i : Int), .int .i64 (j : Int)] w fun e w' =>
      e = .returned (.tuple #[]) ∧ Below B w w' ∧ Queue w' B n (swapπ π i j) (swapI I π i j) P A := by
  have ci := hQ.1.cell hi
  have cj := hQ.1.cell hj
  have fi := hQ.1.frozen i
  have fj := hQ.1.frozen j
  have ii := (hQ.2 (π i) hi').cell (i := 2) (by omega)
  have ij := (hQ.2 (π j) hj').cell (i := 2) (by omega)
  have gi := (hQ.2 (π i) hi').frozen 2
  have gj := (hQ.2 (π j) hj').frozen 2
  simp only [wtr] at ii ij
  have li : ((i : Int) < (n : Int)) := by omega
  have lj : ((j : Int) < (n : Int)) := by omega
  have HQ : Hid (Queue w B n π I P A) := hQ
  clear hQ
  go_enter Try.func14, Try.ntmps14
  go_wp2
  go_region
  go_wp2
  go_end0
  exact ⟨rfl, below_swap w B π i j, queue_swap HQ.out i j⟩

set_option maxHeartbeats 1000000 in
theorem swap_eq (w : World) (B n : Nat) (π : Nat → Nat) (I P A : Nat → Int) (hQ : Queue w B n π I P A) (hn : n ≤ 65536) (i : Nat) (hi : i < n) (hi' : π i < n) :
    Calls Try.prog 14 #[.slice (some ⟨B, 0, none⟩) n n, .int .i64 (i : Int), .int .i64 (i : Int)] w fun e w' =>
      e = .returned (.tuple #[]) ∧ Below B w w' ∧ Queue w' B n (swapπ π i i) (swapI I π i i) P A := by
  have ci := hQ.1.cell hi
  have fi := hQ.1.frozen i
  have ii := (hQ.2 (π i) hi').cell (i := 2) (by omega)
  have gi := (hQ.2 (π i) hi').frozen 2
  simp only [wtr] at ii
  have li : ((i : Int) < (n : Int)) := by omega
  have HQ : Hid (Queue w B n π I P A) := hQ
  clear hQ
  go_enter Try.func14, Try.ntmps14
  go_wp2
  go_region
  go_wp2
  go_end0
  exact ⟨rfl, below_swap w B π i i, queue_swap HQ.out i i⟩

theorem swap_any (w : World) (B n : Nat) (π : Nat → Nat) (I P A : Nat → Int) (hQ : Queue w B n π I P A) (hn : n ≤ 65536) (i j : Nat) (hi : i < n) (hj : j < n) (hi' : π i < n) (hj' : π j < n) (hπ : i ≠ j → π i ≠ π j) :
    Calls Try.prog 14 #[.slice (some ⟨B, 0, none⟩) n n, .int .i64 (i : Int), .int .i64 (j : Int)] w fun e w' =>
      e = .returned (.tuple #[]) ∧ Below B w w' ∧ Queue w' B n (swapπ π i j) (swapI I π i j) P A := by
  by_cases e : i = j
  · subst e
    exact swap_eq w B n π I P A hQ hn i hi hi'
  · exact swap_ne w B n π I P A hQ hn i j hi hj hi' hj' e (hπ e)
