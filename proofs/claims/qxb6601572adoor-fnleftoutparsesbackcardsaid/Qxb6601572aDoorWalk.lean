import Derived.Test.Qxb6601572aDoorLeft
namespace Go.Proofs.Qxb6601572aDoor
open Go.RowKit

theorem size_list (s : ByteArray) : s.data.toList.length = s.size := by rw [Array.length_toList]; rfl

theorem get_list (s : ByteArray) (l : List UInt8) (h : s.data.toList = l) (j : Nat) (hj : j < s.size) (hl : j < l.length) : s[j] = l[j] := by
  subst h; rfl

theorem mark_len (n : Int) (u : List UInt8) : (mark n u).length = 2 + ((Lib.itoa n).length + 1 + (plural n u).length) + 10 := by
  simp [mark, tailB]; omega

theorem plural_len (n : Int) (u : List UInt8) : (plural n u).length ≤ u.length + 1 := by
  unfold plural; split <;> simp

theorem itoa_pos (n : Int) : 1 ≤ (Lib.itoa n).length := by
  unfold Lib.itoa
  split
  · simp
  · exact (digits_ok _).2.2.1

/-- The middle, as a list. -/
theorem mid_list (m : ByteArray) (n : Int) (u : List UInt8) (h : m.data.toList = mark n u) : (m.extract 2 (m.size - 10)).data.toList = Lib.itoa n ++ 32 :: plural n u := by
  have hs : m.size = (mark n u).length := by rw [← size_list, h]
  rw [Lib.extract_data, h, hs, mark_len]
  unfold mark
  rw [List.append_assoc, List.drop_left' (by rfl), List.take_left']
  simp; omega

theorem tail_list (m : ByteArray) (n : Int) (u : List UInt8) (h : m.data.toList = mark n u) : ((m.extract (m.size - 10) m.size).toList == [32, 108, 101, 102, 116, 32, 111, 117, 116, 41]) = true := by
  have hs : m.size = (mark n u).length := by rw [← size_list, h]
  rw [beq_iff_eq, ByteArray.toList_eq, Lib.extract_data, h, hs, mark_len]
  unfold mark
  rw [List.drop_left' (by simp; omega), List.take_of_length_le (by simp [tailB])]
  rfl

/-- What the law's reader meets in the middle: st signs, the digits D, a blank, the unit U. -/
structure Middle (mid : ByteArray) (st : Nat) (D U : List UInt8) : Prop where
  size : mid.size = st + D.length + 1 + U.length
  dig : ∀ k (h : k < D.length) (h' : st + k < mid.size), mid[st + k] = D[k]
  blank : ∀ (h' : st + D.length < mid.size), mid[st + D.length] = 32
  rest : (mid.extract (st + D.length + 1) mid.size).data.toList = U
  one : 1 ≤ D.length
  digs : Dig D
  small : D.length ≤ 100
  unit : U.length ≤ 1048577

theorem middle_of (mid : ByteArray) (pre D U : List UInt8) (h : mid.data.toList = pre ++ (D ++ 32 :: U)) (h1 : 1 ≤ D.length) (h2 : Dig D) (h3 : D.length ≤ 100) (h4 : U.length ≤ 1048577) : Middle mid pre.length D U := by
  have hs : mid.size = pre.length + D.length + 1 + U.length := by rw [← size_list, h]; simp; omega
  refine ⟨hs, fun k hk h' => ?_, fun h' => ?_, ?_, h1, h2, h3, h4⟩
  · rw [get_list mid _ h _ h' (by simp; omega), List.getElem_append_right (by omega)]
    simp only [Nat.add_sub_cancel_left]
    rw [List.getElem_append_left hk]
  · rw [get_list mid _ h _ h' (by simp), List.getElem_append_right (by omega)]
    simp only [Nat.add_sub_cancel_left]
    rw [List.getElem_append_right (by omega)]
    simp
  · rw [Lib.extract_data, h, ← List.append_assoc, List.append_cons, List.drop_left' (by simp; omega), List.take_of_length_le (by omega)]

/-- The mark, as the law's reader takes it apart. -/
structure Marked (m : ByteArray) : Prop where
  lo : 13 ≤ m.size
  hi : m.size ≤ 2000000
  b0 : ∀ h : 0 < m.size, (((m[0]'h).toNat : Int) != 126) = false
  b1 : ∀ h : 1 < m.size, (((m[1]'h).toNat : Int) != 40) = false
  tail : ((m.extract (m.size - 10) m.size).toList == [32, 108, 101, 102, 116, 32, 111, 117, 116, 41]) = true

theorem marked_of (m : ByteArray) (n : Int) (u : List UInt8) (h : m.data.toList = mark n u) (hl : (Lib.itoa n).length ≤ 100) (hu : u.length ≤ 1048576) : Marked m := by
  have hlen : m.size = 2 + ((Lib.itoa n).length + 1 + (plural n u).length) + 10 := by rw [← size_list, h, mark_len]
  have hip := itoa_pos n
  have hpl := plural_len n u
  refine ⟨by omega, by omega, fun hx => ?_, fun hx => ?_, tail_list m n u h⟩
  · rw [get_list m _ h 0 hx (by simp [mark])]; rfl
  · rw [get_list m _ h 1 hx (by simp [mark])]; rfl

theorem rest_facts (mid rest : ByteArray) (st : Nat) (D U : List UInt8) (MD : Middle mid st D U) (h : mid.extract (st + D.length + 1) mid.size = rest) : rest.data.toList = U := by
  rw [← h]; exact MD.rest

/-- The unit behind the blank, in the plural. -/
theorem rest_plural (rest s : ByteArray) (h : rest.data.toList = s.data.toList ++ [115]) : rest.size = s.size + 1 ∧ (∀ hx : rest.size - 1 < rest.size, (((rest[rest.size - 1]'hx).toNat : Int) != 115) = false) ∧ ((rest.extract 0 (rest.size - 1)).toList == s.toList) = true := by
  have hs : rest.size = s.size + 1 := by rw [← size_list, h]; simp
  refine ⟨hs, fun hx => ?_, ?_⟩
  · rw [get_list rest _ h _ hx (by simp [hs])]
    simp only [hs, Nat.add_sub_cancel]
    rw [List.getElem_append_right (by rw [size_list]; omega)]
    simp
  · rw [beq_iff_eq, ByteArray.toList_eq, ByteArray.toList_eq, Lib.extract_data, h, hs]
    simp only [Nat.add_sub_cancel, Nat.sub_zero, List.drop_zero]
    rw [List.take_left' (size_list s)]

theorem head_digit (mid : ByteArray) (st : Nat) (D U : List UInt8) (MD : Middle mid st D U) (a : Nat) (h4 : 1 ≤ a → ∀ c l, D = c :: l → c.toNat ≠ 48) (h5 : 1 < D.length → 1 ≤ a) (hl : 1 < D.length) : ∀ h : st < mid.size, (((mid[st]'h).toNat : Int) == 48) = false := fun h => by
  have e := MD.dig 0 (by omega) (by omega)
  simp only [Nat.add_zero] at e
  rw [e]
  obtain ⟨c, l, rfl⟩ : ∃ c l, D = c :: l := by
    cases D with
    | nil => simp at hl
    | cons c l => exact ⟨c, l, rfl⟩
  have := h4 (h5 hl) c l rfl
  simp only [List.getElem_cons_zero]
  exact beq_eq_false_iff_ne.2 (by omega)

set_option maxRecDepth 100000 in
set_option maxHeartbeats 1000000 in
theorem walk_pos (a : Nat) (s : ByteArray) (w : World) (h1 : a ≤ 9223372036854775807) (hs : s.size ≤ 1048576) (htab : Lib.TabIs Tryd.prog w powName .u64 Lib.pow10Tab) :
    Calls Tryd.prog 3 #[.int .i64 (a : Int), .string s] w fun e w' => e = .returned (.bool true) ∧ Below w.heap.size w w' := by
  have HT : Hid (Lib.TabIs Tryd.prog w powName .u64 Lib.pow10Tab) := htab
  clear htab
  go_enter Tryd.func3, Tryd.ntmps3
  go_wp2_with (go_at_call 4; go_in)
  refine (left_any a s w (by omega) (by omega) hs HT.out).mono ?_
  rintro e w1 ⟨m, rfl, hm, hbel⟩
  have HB : Hid (Below w.heap.size w w1) := hbel
  have hil := itoa_len a (by omega) (by omega)
  have MK := marked_of m a _ hm hil (by rw [size_list]; exact hs)
  have hit : Lib.itoa a = Lib.decDigits a := by unfold Lib.itoa; rw [if_neg (by omega)]; rfl
  obtain ⟨d1, d2, d3, d4, d5⟩ := digits_ok a
  rw [hit] at hil
  have hmid := mid_list m a _ hm
  rw [hit] at hmid
  have hpl := plural_len a s.data.toList
  rw [size_list] at hpl
  obtain ⟨U, hU⟩ : ∃ U, plural a s.data.toList = U := ⟨_, rfl⟩
  rw [hU] at hmid hpl
  obtain ⟨mid, hE⟩ : ∃ mid, m.extract 2 (m.size - 10) = mid := ⟨_, rfl⟩
  rw [hE] at hmid
  generalize Lib.decDigits a = D at *
  have MD : Middle mid 0 D U := middle_of _ [] _ _ hmid d3 d2 hil (by omega)
  obtain ⟨rest, hE2⟩ : ∃ rest, mid.extract (D.length + 1) mid.size = rest := ⟨_, rfl⟩
  have hrest := rest_facts mid rest 0 D U MD (by rw [Nat.zero_add]; exact hE2)
  have hMs := MD.size
  have hMo := MD.one
  have hMl := MD.small
  have hMu := MD.unit
  have hfirst : ∀ h : 0 < mid.size, (((mid[0]'h).toNat : Int) == 45) = false := fun h => by
    have e := MD.dig 0 (by omega) (by omega)
    simp only [Nat.zero_add] at e
    rw [e]
    have := d2 _ (List.getElem_mem (l := D) (n := 0) (by omega))
    exact beq_eq_false_iff_ne.2 (by omega)
  have hMs1 : D.length + 1 + U.length ≤ mid.size := by omega
  have hMs2 : mid.size ≤ D.length + 1 + U.length := by omega
  have hsz1 := MK.lo
  have hsz2 := MK.hi
  have hm0 := MK.b0 (by omega)
  have hm1 := MK.b1 (by omega)
  have htl := MK.tail
  have HD1 : Hid (dval D = a) := d1
  have HD4 : Hid (1 ≤ a → ∀ c l, D = c :: l → c.toNat ≠ 48) := d4
  have HD5 : Hid (1 < D.length → 1 ≤ a) := d5
  have HR : Hid (rest.data.toList = U) := hrest
  have HE2 : Hid (mid.extract (D.length + 1) mid.size = rest) := hE2
  have HU : Hid (plural a s.data.toList = U) := hU
  clear hm hmid hit hbel MK d1 d2 d3 d4 d5 hil hMs hrest hE2 hU
  go_wp2
  clear htl hm0 hm1 hfirst hE
  go_loop [7, 10] (fun i mag => ∃ k : Nat, k ≤ D.length ∧ i = .int .i64 k ∧ mag = .int .u64 (dval (D.take k) : Nat)) (fun i _ => D.length - (intOf i).toNat)
  case atStart => exact ⟨0, by omega, rfl, rfl⟩
  case round =>
    obtain ⟨k, hk, rfl, rfl⟩ := hrel
    by_cases hlt : k < D.length
    · have hck := MD.dig k hlt (by omega)
      simp only [Nat.zero_add] at hck
      have hdk := MD.digs _ (List.getElem_mem hlt)
      have hstep := dval_take D k hlt
      have hle1 := dval_le D k (by omega)
      have hle2 := dval_le D (k + 1) (by omega)
      rw [HD1.out] at hle1 hle2
      obtain ⟨c, hc⟩ : ∃ c, D[k] = c := ⟨_, rfl⟩
      rw [hc] at hck hdk hstep
      have HST : Hid (dval (D.take (k + 1)) = dval (D.take k) * 10 + (c.toNat - 48)) := hstep
      have hno : (dval (D.take k) : Int) ≤ (18446744073709551615 - ((c.toNat : Int) - 48)) / 10 := by omega
      clear hstep hc
      go_wp2
      go_round
      case rel => exact ⟨k + 1, by omega, by go_num, by rw [HST.out]; go_num⟩
      case measure => simp [intOf]; omega
    · obtain rfl : k = D.length := by omega
      rw [List.take_length, HD1.out]
      have hbk := MD.blank (by omega)
      simp only [Nat.zero_add] at hbk
      have hE2 := HE2.out
      have hd0 : ((D.length : Int) == 0) = false := beq_eq_false_iff_ne.2 (by omega)
      by_cases ha : a = 1
      · have ha1 : ((a : Int) == 1) = true := by rw [ha]; rfl
        have hres : (rest.toList == s.toList) = true := by
          rw [beq_iff_eq, ByteArray.toList_eq, ByteArray.toList_eq, HR.out, ← HU.out, ha]; rfl
        clear ha
        by_cases hl : 1 < D.length
        · have hz := head_digit mid 0 D U MD a HD4.out HD5.out hl
          go_wp2
          go_ret
          exact ⟨rfl, HB.out⟩
        · go_wp2
          go_ret
          exact ⟨rfl, HB.out⟩
      · have ha1 : ((a : Int) == 1) = false := beq_eq_false_iff_ne.2 (by omega)
        have hpr : rest.data.toList = s.data.toList ++ [115] := by rw [HR.out, ← HU.out]; unfold plural; rw [if_neg (by omega)]
        obtain ⟨r1, r2, r3⟩ := rest_plural rest s hpr
        have hr0 : ((rest.size : Int) == 0) = false := beq_eq_false_iff_ne.2 (by omega)
        have r4 : 1 ≤ rest.size := by omega
        have r5 : rest.size ≤ 2000000 := by omega
        clear hpr r1 ha
        by_cases hl : 1 < D.length
        · have hz := head_digit mid 0 D U MD a HD4.out HD5.out hl
          go_wp2
          go_ret
          exact ⟨rfl, HB.out⟩
        · go_wp2
          go_ret
          exact ⟨rfl, HB.out⟩
end Go.Proofs.Qxb6601572aDoor
