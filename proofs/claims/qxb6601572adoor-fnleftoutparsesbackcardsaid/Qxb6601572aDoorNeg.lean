import Derived.Test.Qxb6601572aDoorWalk
namespace Go.Proofs.Qxb6601572aDoor
open Go.RowKit

/-- '-uint64(n)' at a negative n. -/
theorem neg_back (a : Nat) (h1 : a ≤ 9223372036854775808) : IntKind.u64.wrap (-IntKind.u64.wrap (-(a : Int))) = a := by
  simp only [IntKind.wrap, IntKind.bits, IntKind.signed]
  simp
  omega

theorem neg_test (a : Nat) (h1 : a ≤ 9223372036854775808) : ((a : Int) != IntKind.u64.wrap (-IntKind.u64.wrap (-(a : Int)))) = false := by
  rw [neg_back a h1]; simp

set_option maxRecDepth 100000 in
set_option maxHeartbeats 1000000 in
theorem walk_neg (a : Nat) (s : ByteArray) (w : World) (h0 : 1 ≤ a) (h1 : a ≤ 9223372036854775808) (hs : s.size ≤ 1048576) (htab : Lib.TabIs Tryd.prog w powName .u64 Lib.pow10Tab) :
    Calls Tryd.prog 3 #[.int .i64 (-(a : Int)), .string s] w fun e w' => e = .returned (.bool true) ∧ Below w.heap.size w w' := by
  have HT : Hid (Lib.TabIs Tryd.prog w powName .u64 Lib.pow10Tab) := htab
  clear htab
  go_enter Tryd.func3, Tryd.ntmps3
  go_wp2_with (go_at_call 4; go_in)
  refine (left_any (-(a : Int)) s w (by omega) (by omega) hs HT.out).mono ?_
  rintro e w1 ⟨m, rfl, hm, hbel⟩
  have HB : Hid (Below w.heap.size w w1) := hbel
  have hil := itoa_len (-(a : Int)) (by omega) (by omega)
  have MK := marked_of m (-(a : Int)) _ hm hil (by rw [size_list]; exact hs)
  have hit : Lib.itoa (-(a : Int)) = 45 :: Lib.decDigits a := by unfold Lib.itoa; rw [if_pos (by omega), Int.natAbs_neg, Int.natAbs_natCast]
  obtain ⟨d1, d2, d3, d4, d5⟩ := digits_ok a
  rw [hit] at hil
  simp only [List.length_cons] at hil
  have hmid := mid_list m (-(a : Int)) _ hm
  rw [hit] at hmid
  have hpl := plural_len (-(a : Int)) s.data.toList
  rw [size_list] at hpl
  obtain ⟨U, hU⟩ : ∃ U, plural (-(a : Int)) s.data.toList = U := ⟨_, rfl⟩
  rw [hU] at hmid hpl
  obtain ⟨mid, hE⟩ : ∃ mid, m.extract 2 (m.size - 10) = mid := ⟨_, rfl⟩
  rw [hE] at hmid
  generalize Lib.decDigits a = D at *
  have MD : Middle mid 1 D U := middle_of _ [45] _ _ hmid d3 d2 (by omega) (by omega)
  obtain ⟨rest, hE2⟩ : ∃ rest, mid.extract (D.length + 1 + 1) mid.size = rest := ⟨_, rfl⟩
  have hrest := rest_facts mid rest 1 D U MD (by rw [show 1 + D.length + 1 = D.length + 1 + 1 by omega]; exact hE2)
  have hMs := MD.size
  have hMo := MD.one
  have hMl := MD.small
  have hMu := MD.unit
  have hfirst : ∀ h : 0 < mid.size, (((mid[0]'h).toNat : Int) == 45) = true := fun h => by
    rw [get_list mid _ hmid 0 h (by simp)]; rfl
  have hMs1 : 1 + D.length + 1 + U.length ≤ mid.size := by omega
  have hMs2 : mid.size ≤ 1 + D.length + 1 + U.length := by omega
  have hsz1 := MK.lo
  have hsz2 := MK.hi
  have hm0 := MK.b0 (by omega)
  have hm1 := MK.b1 (by omega)
  have htl := MK.tail
  have HD1 : Hid (dval D = a) := d1
  have HD4 : Hid (1 ≤ a → ∀ c l, D = c :: l → c.toNat ≠ 48) := d4
  have HD5 : Hid (1 < D.length → 1 ≤ a) := d5
  have HR : Hid (rest.data.toList = U) := hrest
  have HE2 : Hid (mid.extract (D.length + 1 + 1) mid.size = rest) := hE2
  have HU : Hid (plural (-(a : Int)) s.data.toList = U) := hU
  clear hm hmid hit hbel MK d1 d2 d3 d4 d5 hil hMs hrest hE2 hU
  go_wp2
  clear htl hm0 hm1 hfirst hE
  go_loop [7, 10] (fun i mag => ∃ k : Nat, k ≤ D.length ∧ i = .int .i64 ((k : Int) + 1) ∧ mag = .int .u64 (dval (D.take k) : Nat)) (fun i _ => D.length + 1 - (intOf i).toNat)
  case atStart => exact ⟨0, by omega, rfl, rfl⟩
  case round =>
    obtain ⟨k, hk, rfl, rfl⟩ := hrel
    by_cases hlt : k < D.length
    · have hck := MD.dig k hlt (by omega)
      simp only [Nat.add_comm 1 k] at hck
      have hdk := MD.digs _ (List.getElem_mem hlt)
      have hstep := dval_take D k hlt
      have hle1 := dval_le D k (by omega)
      have hle2 := dval_le D (k + 1) (by omega)
      rw [HD1.out] at hle1 hle2
      obtain ⟨c, hc⟩ : ∃ c, D[k] = c := ⟨_, rfl⟩
      rw [hc] at hck hdk hstep
      have HST : Hid (dval (D.take (k + 1)) = dval (D.take k) * 10 + (c.toNat - 48)) := hstep
      have hno : (dval (D.take k) : Int) ≤ (18446744073709551615 - ((c.toNat : Int) - 48)) / 10 := by omega
      clear hstep hc
      go_wp2
      go_round
      case rel => exact ⟨k + 1, by omega, by go_num, by rw [HST.out]; go_num⟩
      case measure => simp [intOf]; omega
    · obtain rfl : k = D.length := by omega
      rw [List.take_length, HD1.out]
      have hbk := MD.blank (by omega)
      simp only [Nat.add_comm 1 D.length] at hbk
      have hE2 := HE2.out
      have hd0 : ((D.length : Int) == 0) = false := beq_eq_false_iff_ne.2 (by omega)
      have ha0 : ((a : Int) == 0) = false := beq_eq_false_iff_ne.2 (by omega)
      have hpr : rest.data.toList = s.data.toList ++ [115] := by rw [HR.out, ← HU.out]; unfold plural; rw [if_neg (by omega)]
      obtain ⟨r1, r2, r3⟩ := rest_plural rest s hpr
      have hr0 : ((rest.size : Int) == 0) = false := beq_eq_false_iff_ne.2 (by omega)
      have r4 : 1 ≤ rest.size := by omega
      have r5 : rest.size ≤ 2000000 := by omega
      have hwm := neg_test a h1
      clear hpr r1
      by_cases hl : 1 < D.length
      · have hz := head_digit mid 1 D U MD a HD4.out HD5.out hl
        go_wp2
        go_ret
        exact ⟨rfl, HB.out⟩
      · go_wp2
        go_ret
        exact ⟨rfl, HB.out⟩

set_option maxRecDepth 100000 in
set_option maxHeartbeats 400000 in
/-- The law, at every int and every string. -/
theorem walk_all (n : Int) (s : ByteArray) (w : World) (hn : (Lit.int .i64 n).wf = true) (hs : s.size ≤ maxLen) (htab : Lib.TabIs Tryd.prog w powName .u64 Lib.pow10Tab) :
    Calls Tryd.prog 3 #[.int .i64 n, .string s] w fun e w' => e = .returned (.bool true) ∧ Below w.heap.size w w' := by
  have hb := bounds_i64 hn
  unfold maxLen at hs
  by_cases h1 : 1048576 < s.size
  · clear htab
    go_enter Tryd.func3, Tryd.ntmps3
    go_wp2
    go_ret
    exact ⟨rfl, Below.refl _ _⟩
  by_cases h0 : 0 ≤ n
  · obtain ⟨a, rfl⟩ := Int.eq_ofNat_of_zero_le h0
    exact walk_pos a s w (by omega) (by omega) htab
  · obtain ⟨a, ha⟩ : ∃ a : Nat, n = -(a : Int) := ⟨n.natAbs, by omega⟩
    subst ha
    exact walk_neg a s w (by omega) (by omega) (by omega) htab
end Go.Proofs.Qxb6601572aDoor
