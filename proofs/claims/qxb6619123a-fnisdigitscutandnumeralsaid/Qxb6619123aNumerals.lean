import Derived.Test.Qxb6619123aParts
namespace Go.Proofs.Qxb6619123a.parts
open Go.ChangeShapes Go.WideShapes Go.ChangeAt Go.RowKit
set_option linter.unusedVariables false

/-! ### zzCode -/
def codeNums (k : Int) : List Int := [65 + k / 676, 65 + k / 26 % 26, 65 + k % 26]

theorem conv_code (k : Int) (w : World) :
    (convert 32 9 (.slice (some ⟨w.heap.size, 0, none⟩) 3 3)).run Try.prog (w.alloc (.cells #[.int .u8 (65 + k / 676), .int .u8 (65 + k / 26 % 26), .int .u8 (65 + k % 26)] 31)) =
      .ok (.string (strOfNums (codeNums k))) (w.alloc (.cells #[.int .u8 (65 + k / 676), .int .u8 (65 + k / 26 % 26), .int .u8 (65 + k % 26)] 31)) := by
  refine run_convert_bytes_arg _ 32 5 Try.underlying32 Try.underlying5 w.heap.size 0 3 3 (codeNums k) rfl ?_ 9 Try.underlying9
  intro i hi
  match i, hi with
  | 0, _ => simp [codeNums]
  | 1, _ => simp [codeNums]
  | 2, _ => simp [codeNums]

theorem zzCode_any (k : Int) (w : World) (h0 : 0 ≤ k) (hk : k < 17576) :
    Calls Try.prog 11 #[.int .u32 k] w fun e w' => e = .returned (.string (strOfNums (codeNums k))) ∧ Grown w w' := by
  have hcv := conv_code k w
  go_enter Try.func11, Try.ntmps11
  go_wp2
  go_ret
  exact ⟨rfl, (Grown.refl _).alloc _ _⟩

/-! ### zzUtoa -/
/-- from place p on the buffer holds the digits ds -/
def Digs (C : Array Value) (p : Nat) (ds : List Int) : Prop :=
  C.size = 20 ∧ (∀ i, i < ds.length → C[p + i]? = some (.int .u8 (ds.getD i 0))) ∧ ∀ d, d ∈ ds → 48 ≤ d ∧ d ≤ 57

theorem digs_put {C : Array Value} {p : Nat} {ds : List Int} {d : Int} (h : Digs C (p + 1) ds) (hp : p < 20) (h1 : 48 ≤ d) (h2 : d ≤ 57) : Digs (C.setIfInBounds p (.int .u8 d)) p (d :: ds) := by
  obtain ⟨hs, hc, hd⟩ := h
  refine ⟨by simpa using hs, fun i hi => ?_, fun e he => ?_⟩
  · cases i with
    | zero => simp [hs, hp]
    | succ i =>
      have := hc i (by simpa using hi)
      rw [Array.getElem?_setIfInBounds, if_neg (by omega)]
      rw [show p + (i + 1) = p + 1 + i by omega, this]
      simp
  · rcases List.mem_cons.1 he with rfl | he
    · exact ⟨h1, h2⟩
    · exact hd e he

theorem slice_buf (b p : Nat) (hp : p < 20) (w : World) :
    (Instr.sliceAt 33 (.pointer (some ⟨b, 0, none⟩)) (some (.int .i64 (p : Int))) none none).run Try.prog w = .ok (.slice (some ⟨b, p, none⟩) (20 - p) (20 - p)) w := by
  have hlen : Try.prog.arrayLen 33 = 20 := by kernel_rfl
  have helem : Try.prog.elem 33 = 5 := by kernel_rfl
  have hu : Try.prog.underlying 33 = some (.array (Try.prog.arrayLen 33) (Try.prog.elem 33)) := by kernel_rfl
  have hsz : (sizeOf 5).run Try.prog w = .ok 1 w := by kernel_rfl
  rw [run_sliceAt_array_l w 33 ⟨b, 0, none⟩ hu .i64 (p : Int) (by omega) (by rw [hlen]; omega), helem, hsz, hlen]
  have hne : ¬ (20 = p) := by omega
  simp [Result.andThen, slicedAt, Addr.add, hne]
  omega

theorem conv_buf {C : Array Value} {p : Nat} {ds : List Int} (h : Digs C p ds) (hp : p + ds.length = 20) (w : World) :
    (convert 32 9 (.slice (some ⟨w.heap.size, p, none⟩) (20 - p) (20 - p))).run Try.prog (w.alloc (.cells C 33)) = .ok (.string (strOfNums ds)) (w.alloc (.cells C 33)) := by
  refine run_convert_bytes_arg _ 32 5 Try.underlying32 Try.underlying5 w.heap.size p (20 - p) (20 - p) ds (by omega) ?_ 9 Try.underlying9
  intro i hi
  rw [World.cell?_alloc_new]
  exact h.2.1 i (by omega)

theorem digs_start : Digs (Array.replicate 20 (.int .u8 0)) 20 [] := ⟨by simp, fun i hi => by simp at hi, fun d hd => by cases hd⟩

/-- a number that is not spent has a place left -/
theorem utoa_step {u p : Nat} (hu : u < 10 ^ (p + 1)) (hne : ((u : Int) / 10 == 0) = false) : ∃ q, p = q + 1 ∧ u / 10 < 10 ^ (q + 1) := by
  have h1 : ¬ (u : Int) / 10 = 0 := by simpa using hne
  have h2 : 10 ≤ u := by omega
  cases p with
  | zero => simp at hu; omega
  | succ q =>
    refine ⟨q, rfl, ?_⟩
    rw [Nat.pow_succ] at hu
    omega

set_option maxRecDepth 100000 in
theorem zzUtoa_any (u : Nat) (w : World) (hu : u < 18446744073709551616) :
    Calls Try.prog 15 #[.int .u64 (u : Int)] w fun e w' => ∃ ds : List Int, e = .returned (.string (strOfNums ds)) ∧ 0 < ds.length ∧ ds.length ≤ 20 ∧ (∀ d, d ∈ ds → 48 ≤ d ∧ d ≤ 57) ∧ Grown w w' := by
  go_enter Try.func15, Try.ntmps15
  go_wp2
  go_loopw [0, 4] (fun x i wr => ∃ (p u : Nat) (C : Array Value) (ds : List Int), p + 1 + ds.length = 20 ∧ u < 10 ^ (p + 1) ∧ u ≤ 18446744073709551615 ∧ x = .int .u64 (u : Int) ∧ i = .int .i64 ((p : Int) + 1) ∧ wr = w.alloc (.cells C 33) ∧ Digs C (p + 1) ds) (fun _ i _ => (intOf i).toNat)
  case atStart =>
    exact ⟨19, u, _, [], by simp, by omega, by omega, rfl, rfl, rfl, digs_start⟩
  case round =>
    obtain ⟨p, u, C, ds, hp, hu, hu2, rfl, rfl, rfl, hD⟩ := hrel
    have HU : Hid (u < 10 ^ (p + 1)) := hu
    have hsz : C.size = 20 := hD.1
    have hp20 : p < 20 := by omega
    have hD' : Digs (C.setIfInBounds p (.int .u8 (48 + (u : Int) % 10))) p ((48 + (u : Int) % 10) :: ds) := digs_put hD hp20 (by omega) (by omega)
    have HD : Hid (Digs (C.setIfInBounds p (.int .u8 (48 + (u : Int) % 10))) p ((48 + (u : Int) % 10) :: ds)) := hD'
    obtain ⟨v0, hv0⟩ : ∃ v, C[p]? = some v := ⟨C[p]'(by omega), by simp [show p < C.size by omega]⟩
    have hsl := slice_buf w.heap.size p hp20
    have hcv := conv_buf hD' (by simp; omega) w
    clear hu hD hD'
    go_wp2
    · go_ret
      exact ⟨_, rfl, by simp, by simp; omega, HD.out.2.2, (Grown.refl _).alloc _ _⟩
    · go_roundw
      case rel =>
        obtain ⟨q, rfl, hq⟩ := utoa_step HU.out ‹_›
        exact ⟨q, u / 10, _, _, by simp; omega, hq, by omega, by go_num, by go_num, rfl, HD.out⟩
      case measure => simp [intOf]

theorem dig_of {d : Int} (h : 48 ≤ d ∧ d ≤ 57) : dig (UInt8.ofNat d.toNat) = true := by
  apply dig_yes
  rw [UInt8.toNat_ofNat']
  omega

/-- the numeral of a: some digits, at least one and at most twenty -/
theorem zzUtoa_int (a : Int) (w : World) (h0 : 0 ≤ a) (h1 : a ≤ 18446744073709551615) :
    Calls Try.prog 15 #[.int .u64 a] w fun e w' => ∃ t : ByteArray, e = .returned (.string t) ∧ 0 < t.size ∧ t.size ≤ 20 ∧ t.data.toList.all dig = true ∧ Grown w w' := by
  obtain ⟨u, rfl⟩ : ∃ u : Nat, a = (u : Int) := ⟨a.toNat, by omega⟩
  refine (zzUtoa_any u w (by omega)).mono fun e w' ⟨ds, he, hl, hm, hd, hg⟩ => ⟨strOfNums ds, he, ?_, ?_, ?_, hg⟩
  · rw [strOfNums_size]; exact hl
  · rw [strOfNums_size]; exact hm
  · rw [strOfNums_data, List.all_eq_true]
    intro c hc
    obtain ⟨d, hd', rfl⟩ := List.mem_map.1 hc
    exact dig_of (hd d hd')

/-! ### zzItoa -/
theorem minus_no (t : ByteArray) : ((⟨#[45]⟩ : ByteArray) ++ t).data.toList.all dig = false := by
  have e : ((⟨#[45]⟩ : ByteArray) ++ t).data.toList = 45 :: t.data.toList := by simp [ByteArray.data_append]
  rw [e, List.all_cons, show dig 45 = false from by decide]
  rfl

theorem minus_size (t : ByteArray) : ((⟨#[45]⟩ : ByteArray) ++ t).size = 1 + t.size := by rw [ByteArray.size_append]; rfl

/-- the numeral of n: not empty, short; all digits exactly where n is not negative -/
theorem zzItoa_pos (n : Int) (w : World) (h0 : 0 ≤ n) (h1 : n ≤ 9223372036854775807) :
    Calls Try.prog 9 #[.int .i64 n] w fun e w' => ∃ t : ByteArray, e = .returned (.string t) ∧ 0 < t.size ∧ t.size ≤ 30 ∧ t.data.toList.all dig = true ∧ Grown w w' := by
  go_enter Try.func9, Try.ntmps9
  go_wp2_with (go_at_call 15; refine (zzUtoa_int _ _ (by omega) (by omega)).mono ?_; rintro e w' ⟨t, rfl, hl, hm, hd, hg⟩)
  go_ret
  exact ⟨t, rfl, by omega, by omega, by assumption, by assumption⟩

theorem zzItoa_neg (n : Int) (w : World) (h0 : n < 0) (h1 : -9223372036854775808 ≤ n) :
    Calls Try.prog 9 #[.int .i64 n] w fun e w' => ∃ t : ByteArray, e = .returned (.string t) ∧ 0 < t.size ∧ t.size ≤ 30 ∧ t.data.toList.all dig = false ∧ Grown w w' := by
  go_enter Try.func9, Try.ntmps9
  go_wp2_with (go_at_call 15; refine (zzUtoa_int _ _ (by omega) (by omega)).mono ?_; rintro e w' ⟨t, rfl, hl, hm, hd, hg⟩)
  go_ret
  exact ⟨_, rfl, by rw [minus_size]; omega, by rw [minus_size]; omega, minus_no t, by assumption⟩

/-! ### zzIsCodeImage -/
/-- the byte at t, as a number -/
def bt (s : ByteArray) (t : Nat) : Int := ((s.data.toList.getD t 0).toNat : Int)
theorem bt_eq (s : ByteArray) (t : Nat) (h : t < s.size) : (s[t].toNat : Int) = bt s t := by
  unfold bt
  rw [← byte_eq s t h, List.getD_eq_getElem?_getD, List.getElem?_eq_getElem (by simpa using h)]; rfl
theorem bt_bd (s : ByteArray) (t : Nat) : 0 ≤ bt s t ∧ bt s t ≤ 255 := by
  unfold bt
  have := (s.data.toList.getD t 0).toNat_lt
  omega
/-- the number of the first t bytes, base 26 -/
def part (s : ByteArray) : Nat → Int
  | 0 => 0
  | t + 1 => part s t * 26 + (bt s t - 65)
theorem part_bd (s : ByteArray) (t : Nat) (h : t ≤ 3) : -50000 ≤ part s t ∧ part s t ≤ 150000 := by
  have h0 := bt_bd s 0
  have h1 := bt_bd s 1
  have h2 := bt_bd s 2
  match t, h with
  | 0, _ => simp [part]
  | 1, _ => simp [part]; omega
  | 2, _ => simp [part]; omega
  | 3, _ => simp [part]; omega

theorem three {s : ByteArray} (h3 : s.size = 3) : ∃ x y z : UInt8, s.data.toList = [x, y, z] := by
  have hl : s.data.toList.length = 3 := by simpa using h3
  match h : s.data.toList, hl with
  | [x, y, z], _ => exact ⟨x, y, z, rfl⟩

theorem ltr_iff (c : UInt8) : ltr c = true ↔ (65 ≤ (c.toNat : Int) ∧ (c.toNat : Int) ≤ 90) := by
  simp [ltr]; omega

theorem code_three {x y z : UInt8} : codeB [x, y, z] = true ↔ (ltr x = true ∧ ltr y = true ∧ ltr z = true) := by
  simp [codeB]

theorem part_three {s : ByteArray} {x y z : UInt8} (h : s.data.toList = [x, y, z]) : part s 3 = (((x.toNat : Int) - 65) * 26 + ((y.toNat : Int) - 65)) * 26 + ((z.toNat : Int) - 65) := by
  simp [part, bt, h]

theorem ofNat_eq_iff (n : Int) (c : UInt8) (h0 : 0 ≤ n) (h1 : n ≤ 255) : UInt8.ofNat n.toNat = c ↔ n = (c.toNat : Int) := by
  rw [← UInt8.toNat_inj, UInt8.toNat_ofNat']
  omega

theorem img_out {s : ByteArray} (h3 : s.size = 3) (h : ¬ (0 ≤ part s 3 ∧ part s 3 < 17576)) : false = codeB s.data.toList := by
  obtain ⟨x, y, z, e⟩ := three h3
  rw [part_three e] at h
  symm
  rw [e, Bool.eq_false_iff]
  intro hc
  rw [code_three] at hc
  simp only [ltr_iff] at hc
  omega

theorem img_in {s : ByteArray} (h3 : s.size = 3) (h0 : 0 ≤ part s 3) (h1 : part s 3 < 17576) : ((strOfNums (codeNums (part s 3))).toList == s.toList) = codeB s.data.toList := by
  obtain ⟨x, y, z, e⟩ := three h3
  have hp := part_three e
  rw [Bool.eq_iff_iff, ByteArray.toList_eq, ByteArray.toList_eq, strOfNums_data, e, code_three, beq_iff_eq]
  generalize part s 3 = v at *
  have hx := x.toNat_lt
  have hy := y.toNat_lt
  have hz := z.toNat_lt
  simp only [codeNums, List.map_cons, List.map_nil, List.cons.injEq, and_true, ltr_iff]
  rw [ofNat_eq_iff _ _ (by omega) (by omega), ofNat_eq_iff _ _ (by omega) (by omega), ofNat_eq_iff _ _ (by omega) (by omega)]
  omega

theorem zzImage_any (s : ByteArray) (w : World) (hs : s.size ≤ 4000000) :
    Calls Try.prog 13 #[.string s] w fun e w' => e = .returned (.bool (codeB s.data.toList)) ∧ Grown w w' := by
  by_cases h3 : s.size = 3
  · have h3' : ((s.size : Int) != 3) = false := by simp [h3]
    have H3 : Hid (s.size = 3) := h3
    clear h3
    go_enter Try.func13, Try.ntmps13
    go_wp2
    go_loop [3, 4] (fun x i => ∃ t : Nat, t ≤ 3 ∧ i = .int .i64 t ∧ x = .int .i64 (part s t)) (fun _ i => 3 - (intOf i).toNat)
    case atStart => exact ⟨0, by omega, rfl, rfl⟩
    case round =>
      obtain ⟨t, ht, rfl, rfl⟩ := hrel
      have hb := part_bd s t ht
      by_cases hlt : t < 3
      · have hts : t < s.size := by have := H3.out; omega
        have hbt := bt_bd s t
        have HB : Hid ((s[t].toNat : Int) = bt s t) := bt_eq s t hts
        have hx : (s[t].toNat : Int) ≤ 255 := by rw [HB.out]; exact hbt.2
        go_wp2
        go_round
        case rel => exact ⟨t + 1, by omega, by go_num, by rw [HB.out]; rfl⟩
        case measure => simp [intOf]; omega
      · obtain rfl : t = 3 := by omega
        by_cases hin : 0 ≤ part s 3 ∧ part s 3 < 17576
        · obtain ⟨hi0, hi1⟩ := hin
          go_wp2_with (go_at_call 11; refine (zzCode_any _ _ (by omega) (by omega)).mono ?_; rintro e w' ⟨rfl, hg⟩)
          go_ret
          exact ⟨ret_bool (img_in H3.out hi0 hi1), hg⟩
        · have HN : Hid (¬ (0 ≤ part s 3 ∧ part s 3 < 17576)) := hin
          clear hin
          by_cases hneg : part s 3 < 0
          · go_wp2
            go_ret
            exact ⟨ret_bool (img_out H3.out HN.out), Grown.refl _⟩
          · have hbig : 17576 ≤ part s 3 := by have := HN.out; omega
            go_wp2
            go_ret
            exact ⟨ret_bool (img_out H3.out HN.out), Grown.refl _⟩
  · have h3' : ((s.size : Int) != 3) = true := by simp; omega
    go_enter Try.func13, Try.ntmps13
    go_wp2
    go_ret
    exact ⟨ret_bool (code_len h3), Grown.refl _⟩

/-! ### What the laws ask of the callees -/
theorem grown_trans {a b c : World} (h1 : Grown a b) (h2 : Grown b c) : Grown a c := by
  obtain ⟨k1, f1, s1⟩ := h1
  obtain ⟨k2, f2, s2⟩ := h2
  exact ⟨World.keptBut_trans k1 k2, fun a => (f2 a).trans (f1 a), Nat.le_trans s1 s2⟩

theorem cat_data (a b : ByteArray) : (a ++ b).data.toList = a.data.toList ++ b.data.toList := by simp [ByteArray.data_append]
theorem cat_size (a b : ByteArray) : (a ++ b).size = a.size + b.size := ByteArray.size_append

theorem codeNums_code (k : Int) (h0 : 0 ≤ k) (hk : k < 17576) : codeB (strOfNums (codeNums k)).data.toList = true := by
  rw [strOfNums_data]
  simp only [codeNums, List.map_cons, List.map_nil]
  rw [code_three]
  refine ⟨?_, ?_, ?_⟩
  all_goals
    rw [ltr_iff, UInt8.toNat_ofNat']
    omega

/-- the k-th letter triple, counted from an elder world -/
theorem code_from (b : World) (k : Int) (w : World) (h0 : 0 ≤ k) (hk : k < 17576) (hb : Grown b w) :
    Calls Try.prog 11 #[.int .u32 k] w fun e w' => ∃ c : ByteArray, e = .returned (.string c) ∧ c.size = 3 ∧ codeB c.data.toList = true ∧ Grown b w' :=
  (zzCode_any k w h0 hk).mono fun _ _ ⟨he, hg⟩ => ⟨_, he, by rw [strOfNums_size]; rfl, codeNums_code k h0 hk, grown_trans hb hg⟩

theorem utoa_from (b : World) (a : Int) (w : World) (h0 : 0 ≤ a) (h1 : a ≤ 18446744073709551615) (hb : Grown b w) :
    Calls Try.prog 15 #[.int .u64 a] w fun e w' => ∃ t : ByteArray, e = .returned (.string t) ∧ 0 < t.size ∧ t.size ≤ 20 ∧ t.data.toList.all dig = true ∧ Grown b w' :=
  (zzUtoa_int a w h0 h1).mono fun _ _ ⟨t, he, h1, h2, h3, hg⟩ => ⟨t, he, h1, h2, h3, grown_trans hb hg⟩

theorem image_from (b : World) (s : ByteArray) (w : World) (hs : s.size ≤ 4000000) (hb : Grown b w) :
    Calls Try.prog 13 #[.string s] w fun e w' => e = .returned (.bool (codeB s.data.toList)) ∧ Grown b w' :=
  (zzImage_any s w hs).mono fun _ _ ⟨he, hg⟩ => ⟨he, grown_trans hb hg⟩

/-! ### The plain laws on texts -/
theorem isEmpty_of_size {s : ByteArray} (h : 0 < s.size) : s.data.toList.isEmpty = false := by
  cases e : s.data.toList with
  | nil => have : s.data.toList.length = 0 := by rw [e]; rfl
           have : s.size = 0 := by simpa using this
           omega
  | cons => rfl

theorem digits_of {t : ByteArray} (h : 0 < t.size) (hd : t.data.toList.all dig = true) : digitsB t.data.toList = true := by
  rw [digitsB, hd, isEmpty_of_size h]; rfl
theorem digits_not {t : ByteArray} (hd : t.data.toList.all dig = false) : digitsB t.data.toList = false := by
  rw [digitsB, hd]; rfl

theorem dig_not_ltr {c : UInt8} (h : dig c = true) : ltr c = false := by
  rw [Bool.eq_false_iff]; intro e
  simp [dig] at h; simp [ltr] at e; omega
theorem ltr_not_dig {c : UInt8} (h : ltr c = true) : dig c = false := by
  rw [Bool.eq_false_iff]; intro e
  rw [dig_not_ltr e] at h; cases h

/-- no text is both -/
theorem apart {l : List UInt8} (h : digitsB l = true) : codeB l = false := by
  cases l with
  | nil => rfl
  | cons c l =>
    simp [digitsB] at h
    simp [codeB, dig_not_ltr h.1]
theorem apart' {l : List UInt8} (h : codeB l = true) : digitsB l = false := by
  cases e : digitsB l with
  | false => rfl
  | true => rw [apart e] at h; cases h

/-- a code behind a text is a code exactly where the text is empty -/
theorem code_behind (s c : ByteArray) (h3 : c.size = 3) (hc : codeB c.data.toList = true) : codeB (s ++ c).data.toList = s.toList.isEmpty := by
  rw [cat_data, ByteArray.toList_eq]
  cases e : s.data.toList with
  | nil => simpa using hc
  | cons x l =>
    have hl : c.data.toList.length = 3 := by simpa using h3
    simp [codeB]
    intro h
    simp at hl
    omega

/-- a code with something behind it is neither -/
theorem mixed_digits (c t : ByteArray) (hc : codeB c.data.toList = true) : digitsB (c ++ t).data.toList = false := by
  rw [cat_data]
  cases e : c.data.toList with
  | nil => rw [e] at hc; cases hc
  | cons x l =>
    rw [e] at hc
    simp [codeB] at hc
    simp [digitsB, ltr_not_dig hc.2.1]
theorem mixed_code (c t : ByteArray) (h3 : c.size = 3) (ht : 0 < t.size) : codeB (c ++ t).data.toList = false := by
  have h : (c ++ t).size ≠ 3 := by rw [cat_size]; omega
  exact (code_len h).symm

/-- all digits of a join -/
theorem digits_join (a b : ByteArray) : digitsB (a ++ b).data.toList = (eodB a.data.toList && eodB b.data.toList && (!a.toList.isEmpty || !b.toList.isEmpty)) := by
  rw [cat_data, ByteArray.toList_eq, ByteArray.toList_eq]
  generalize a.data.toList = x
  generalize b.data.toList = y
  cases x <;> cases y <;> simp [digitsB, eodB, Bool.and_assoc]

/-- a text with a numeral behind it -/
theorem digits_behind (a t : ByteArray) (ht : 0 < t.size) : digitsB (a ++ t).data.toList = (eodB a.data.toList && t.data.toList.all dig) := by
  have he := isEmpty_of_size ht
  rw [cat_data]
  generalize a.data.toList = x
  generalize t.data.toList = y at *
  cases x <;> cases y <;> simp_all [digitsB, eodB, Bool.and_assoc]
