import Derived.Test.Qxb6605432aValid
import Derived.OpenShut
namespace Go.Proofs.Qxb6605432a
open Go.RowKit

/-- How many bytes are of the set. Not reducible. -/
def cntB (l : List UInt8) : Int := ((l.filter fun c => inB c.toNat).length : Int)

theorem cntB_le (l : List UInt8) : 0 ≤ cntB l ∧ cntB l ≤ l.length := by
  unfold cntB
  exact ⟨by omega, by have := List.length_filter_le (fun c : UInt8 => inB c.toNat) l; omega⟩

theorem take_snoc (s : ByteArray) (k : Nat) (h : k < s.size) : s.data.toList.take (k + 1) = s.data.toList.take k ++ [s[k]] := by
  rw [List.take_succ_eq_append_getElem (by rw [size_list]; exact h)]; rfl

theorem cntB_snoc (l : List UInt8) (c : UInt8) : cntB (l ++ [c]) = cntB l + if inB c.toNat = true then 1 else 0 := by
  unfold cntB
  rw [List.filter_append]
  by_cases h : inB c.toNat = true <;> simp [h]

theorem ret_int {k : IntKind} {a b : Int} (h : a = b) : Ending.returned (.int k a) = .returned (.int k b) := by rw [h]

set_option maxHeartbeats 400000 in
theorem count_any (s : ByteArray) (w : World) (hs : s.size ≤ maxLen) :
    Calls Try.prog 16 #[.string s] w fun e w' => e = .returned (.int .i64 (cntB s.data.toList)) ∧ w = w' := by
  unfold maxLen at hs
  go_enter Try.func16, Try.ntmps16
  go_wp2
  go_loop [3, 4] (fun n i => ∃ k : Nat, k ≤ s.size ∧ i = .int .i64 k ∧ n = .int .i64 (cntB (s.data.toList.take k))) (fun _ i => s.size - (intOf i).toNat)
  case atStart => exact ⟨0, Nat.zero_le _, rfl, rfl⟩
  case round =>
    obtain ⟨k, hk, rfl, rfl⟩ := hrel
    have hd := cntB_le (s.data.toList.take k)
    have hl : (s.data.toList.take k).length ≤ k := List.length_take_le _ _
    by_cases hlt : k < s.size
    · have HS : Hid (cntB (s.data.toList.take (k + 1)) = cntB (s.data.toList.take k) + if inB (s[k].toNat : Int) = true then 1 else 0) := by
        rw [take_snoc s k hlt]; exact cntB_snoc _ _
      cases hb : inB (s[k].toNat : Int)
      · go_wp2_with (go_at_call 11; refine (alpha_any _ _).mono ?_; rintro e w' ⟨rfl, rfl⟩)
        go_round
        case rel => exact ⟨k + 1, by omega, by go_num, by rw [HS.out, hb]; simp⟩
        case measure => simp [intOf]; omega
      · go_wp2_with (go_at_call 11; refine (alpha_any _ _).mono ?_; rintro e w' ⟨rfl, rfl⟩)
        go_round
        case rel => exact ⟨k + 1, by omega, by go_num, by rw [HS.out, hb]; simp⟩
        case measure => simp [intOf]; omega
    · go_wp2
      go_ret
      exact ⟨ret_int (by rw [List.take_of_length_le (by rw [size_list]; omega)]), rfl⟩

theorem count_valid (s : ByteArray) (h1 : 1 ≤ s.size) (h2 : s.size ≤ 128) : (cntB s.data.toList == (s.size : Int)) = validB s.data.toList := by
  unfold validB cntB
  rw [Bool.eq_iff_iff]
  simp only [Bool.and_eq_true, decide_eq_true_eq, size_list, beq_iff_eq, List.all_eq_true]
  have e : ((List.filter (fun c : UInt8 => inB c.toNat) s.data.toList).length = s.size) ↔ ∀ a ∈ s.data.toList, inB (a.toNat : Int) = true := by
    rw [← size_list, List.length_filter_eq_length_iff]
  constructor
  · intro h; exact ⟨⟨h1, h2⟩, e.1 (by omega)⟩
  · intro h; have := e.2 h.2; omega

set_option maxHeartbeats 400000 in
theorem model_any (s : ByteArray) (w : World) (hs : s.size ≤ maxLen) :
    Calls Try.prog 9 #[.string s] w fun e w' => e = .returned (.bool (validB s.data.toList)) ∧ w = w' := by
  by_cases h1 : s.size < 1
  · rw [valid_short s (.inl h1)]
    go_enter Try.func9, Try.ntmps9
    go_wp2
    go_ret
    exact ⟨rfl, rfl⟩
  by_cases h2 : 128 < s.size
  · rw [valid_short s (.inr h2)]
    go_enter Try.func9, Try.ntmps9
    go_wp2
    go_ret
    exact ⟨rfl, rfl⟩
  have h3 : Hid _ := count_valid s (by omega) (by omega)
  go_enter Try.func9, Try.ntmps9
  go_wp2_with (go_at_call 16; refine (count_any _ _ hs).mono ?_; rintro e w' ⟨rfl, rfl⟩)
  go_ret
  exact ⟨ret_bool h3.out, rfl⟩
end Go.Proofs.Qxb6605432a
