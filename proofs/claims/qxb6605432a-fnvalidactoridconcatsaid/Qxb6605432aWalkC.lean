import Derived.Test.Qxb6605432aModel
import Derived.Lib.SmallJoins
namespace Go.Proofs.Qxb6605432a
open Go.RowKit

/-- ValidActorID, the world told from an earlier one on. -/
theorem valid_from (w0 w : World) (s : ByteArray) (h : Below w0.heap.size w0 w) :
    Calls Try.prog 8 #[.string s] w fun e w' => e = .returned (.bool (validB s.data.toList)) ∧ Below w0.heap.size w0 w' :=
  (valid_any s w).mono fun _ _ ⟨he, hb⟩ => ⟨he, h.trans (hb.mono h.size)⟩

theorem empty_size (s : ByteArray) : s.toList = [] ↔ s.size = 0 := by
  rw [ByteArray.toList_eq, ← size_list, List.length_eq_zero_iff]

/-- The join is valid exactly when its length is in range and each part is empty or valid. -/
theorem valid_append (s t : ByteArray) :
    validB (s.data.toList ++ t.data.toList) = (decide (1 ≤ s.size + t.size) && decide (s.size + t.size ≤ 128) && (decide (s.size = 0) || validB s.data.toList) && (decide (t.size = 0) || validB t.data.toList)) := by
  unfold validB
  rw [List.length_append, List.all_append, size_list, size_list]
  rw [Bool.eq_iff_iff]
  simp only [Bool.and_eq_true, Bool.or_eq_true, decide_eq_true_eq]
  have e0 : s.size = 0 → s.data.toList.all (fun c => inB c.toNat) = true := fun h => by
    rw [← size_list] at h; rw [List.length_eq_zero_iff.1 h]; rfl
  have e1 : t.size = 0 → t.data.toList.all (fun c => inB c.toNat) = true := fun h => by
    rw [← size_list] at h; rw [List.length_eq_zero_iff.1 h]; rfl
  constructor
  · rintro ⟨⟨a, b⟩, c, d⟩
    refine ⟨⟨⟨a, b⟩, ?_⟩, ?_⟩
    · by_cases h : s.size = 0
      · exact .inl h
      · exact .inr ⟨⟨by omega, by omega⟩, c⟩
    · by_cases h : t.size = 0
      · exact .inl h
      · exact .inr ⟨⟨by omega, by omega⟩, d⟩
  · rintro ⟨⟨⟨a, b⟩, c⟩, d⟩
    refine ⟨⟨a, b⟩, ?_, ?_⟩
    · rcases c with c | c
      · exact e0 c
      · exact c.2
    · rcases d with c | c
      · exact e1 c
      · exact c.2

theorem size_append (s t : ByteArray) : (s ++ t).size = s.size + t.size := by
  rw [← size_list, Joins.data_append, List.length_append, size_list, size_list]

/-! The road where no bound shuts the input out: one walk a case, every test decided ahead. -/
set_option maxHeartbeats 1000000 in
theorem c_none (s t : ByteArray) (w : World) (h4 : s.size ≤ 524288) (h5 : t.size ≤ 524288) (n1 : s.size + t.size < 1) (hv : validB (s.data.toList ++ t.data.toList) = false) (es : s.toList.isEmpty = true) (et : t.toList.isEmpty = true) :
    Calls Try.prog 4 #[.string s, .string t] w fun e w' => e = .returned (.bool true) ∧ Below w.heap.size w w' := by
  have hst : Hid ((s ++ t).size ≤ maxLen) := by show (s ++ t).size ≤ maxLen; rw [size_append]; unfold maxLen; omega
  have hB := Below.refl w.heap.size w
  go_enter Try.func4, Try.ntmps4
  go_wp2_with (first | (go_at_call 10; go_in) | (go_at_call 8; refine (valid_from w _ _ (by assumption)).mono ?_; rintro e w1 ⟨rfl, hB1⟩) | (go_at_call 9; refine (model_any _ _ hst.out).mono ?_; rintro e w1 ⟨rfl, rfl⟩))
  go_ret
  exact ⟨rfl, by assumption⟩

set_option maxHeartbeats 1000000 in
theorem c_long_ff (s t : ByteArray) (w : World) (h4 : s.size ≤ 524288) (h5 : t.size ≤ 524288) (n2 : 128 < s.size + t.size) (hv : validB (s.data.toList ++ t.data.toList) = false) (es : s.toList.isEmpty = false) (et : t.toList.isEmpty = false) :
    Calls Try.prog 4 #[.string s, .string t] w fun e w' => e = .returned (.bool true) ∧ Below w.heap.size w w' := by
  have hst : Hid ((s ++ t).size ≤ maxLen) := by show (s ++ t).size ≤ maxLen; rw [size_append]; unfold maxLen; omega
  have hB := Below.refl w.heap.size w
  go_enter Try.func4, Try.ntmps4
  go_wp2_with (first | (go_at_call 10; go_in) | (go_at_call 8; refine (valid_from w _ _ (by assumption)).mono ?_; rintro e w1 ⟨rfl, hB1⟩) | (go_at_call 9; refine (model_any _ _ hst.out).mono ?_; rintro e w1 ⟨rfl, rfl⟩))
  go_ret
  exact ⟨rfl, by assumption⟩

set_option maxHeartbeats 1000000 in
theorem c_long_ft (s t : ByteArray) (w : World) (h4 : s.size ≤ 524288) (h5 : t.size ≤ 524288) (n2 : 128 < s.size + t.size) (hv : validB (s.data.toList ++ t.data.toList) = false) (es : s.toList.isEmpty = false) (et : t.toList.isEmpty = true) :
    Calls Try.prog 4 #[.string s, .string t] w fun e w' => e = .returned (.bool true) ∧ Below w.heap.size w w' := by
  have hst : Hid ((s ++ t).size ≤ maxLen) := by show (s ++ t).size ≤ maxLen; rw [size_append]; unfold maxLen; omega
  have hB := Below.refl w.heap.size w
  go_enter Try.func4, Try.ntmps4
  go_wp2_with (first | (go_at_call 10; go_in) | (go_at_call 8; refine (valid_from w _ _ (by assumption)).mono ?_; rintro e w1 ⟨rfl, hB1⟩) | (go_at_call 9; refine (model_any _ _ hst.out).mono ?_; rintro e w1 ⟨rfl, rfl⟩))
  go_ret
  exact ⟨rfl, by assumption⟩

set_option maxHeartbeats 1000000 in
theorem c_long_tf (s t : ByteArray) (w : World) (h4 : s.size ≤ 524288) (h5 : t.size ≤ 524288) (n2 : 128 < s.size + t.size) (hv : validB (s.data.toList ++ t.data.toList) = false) (es : s.toList.isEmpty = true) (et : t.toList.isEmpty = false) :
    Calls Try.prog 4 #[.string s, .string t] w fun e w' => e = .returned (.bool true) ∧ Below w.heap.size w w' := by
  have hst : Hid ((s ++ t).size ≤ maxLen) := by show (s ++ t).size ≤ maxLen; rw [size_append]; unfold maxLen; omega
  have hB := Below.refl w.heap.size w
  go_enter Try.func4, Try.ntmps4
  go_wp2_with (first | (go_at_call 10; go_in) | (go_at_call 8; refine (valid_from w _ _ (by assumption)).mono ?_; rintro e w1 ⟨rfl, hB1⟩) | (go_at_call 9; refine (model_any _ _ hst.out).mono ?_; rintro e w1 ⟨rfl, rfl⟩))
  go_ret
  exact ⟨rfl, by assumption⟩

set_option maxHeartbeats 1000000 in
theorem c_tf_true (s t : ByteArray) (w : World) (h4 : s.size ≤ 524288) (h5 : t.size ≤ 524288) (n1 : 1 ≤ s.size + t.size) (n2 : s.size + t.size ≤ 128) (hv : validB (s.data.toList ++ t.data.toList) = true) (es : s.toList.isEmpty = true) (et : t.toList.isEmpty = false) (vt : validB t.data.toList = true) :
    Calls Try.prog 4 #[.string s, .string t] w fun e w' => e = .returned (.bool true) ∧ Below w.heap.size w w' := by
  have hst : Hid ((s ++ t).size ≤ maxLen) := by show (s ++ t).size ≤ maxLen; rw [size_append]; unfold maxLen; omega
  have hB := Below.refl w.heap.size w
  go_enter Try.func4, Try.ntmps4
  go_wp2_with (first | (go_at_call 10; go_in) | (go_at_call 8; refine (valid_from w _ _ (by assumption)).mono ?_; rintro e w1 ⟨rfl, hB1⟩) | (go_at_call 9; refine (model_any _ _ hst.out).mono ?_; rintro e w1 ⟨rfl, rfl⟩))
  go_ret
  exact ⟨rfl, by assumption⟩

set_option maxHeartbeats 1000000 in
theorem c_ft_true (s t : ByteArray) (w : World) (h4 : s.size ≤ 524288) (h5 : t.size ≤ 524288) (n1 : 1 ≤ s.size + t.size) (n2 : s.size + t.size ≤ 128) (hv : validB (s.data.toList ++ t.data.toList) = true) (es : s.toList.isEmpty = false) (et : t.toList.isEmpty = true) (vs : validB s.data.toList = true) :
    Calls Try.prog 4 #[.string s, .string t] w fun e w' => e = .returned (.bool true) ∧ Below w.heap.size w w' := by
  have hst : Hid ((s ++ t).size ≤ maxLen) := by show (s ++ t).size ≤ maxLen; rw [size_append]; unfold maxLen; omega
  have hB := Below.refl w.heap.size w
  go_enter Try.func4, Try.ntmps4
  go_wp2_with (first | (go_at_call 10; go_in) | (go_at_call 8; refine (valid_from w _ _ (by assumption)).mono ?_; rintro e w1 ⟨rfl, hB1⟩) | (go_at_call 9; refine (model_any _ _ hst.out).mono ?_; rintro e w1 ⟨rfl, rfl⟩))
  go_ret
  exact ⟨rfl, by assumption⟩

set_option maxHeartbeats 1000000 in
theorem c_tf_false (s t : ByteArray) (w : World) (h4 : s.size ≤ 524288) (h5 : t.size ≤ 524288) (n1 : 1 ≤ s.size + t.size) (n2 : s.size + t.size ≤ 128) (hv : validB (s.data.toList ++ t.data.toList) = false) (es : s.toList.isEmpty = true) (et : t.toList.isEmpty = false) (vt : validB t.data.toList = false) :
    Calls Try.prog 4 #[.string s, .string t] w fun e w' => e = .returned (.bool true) ∧ Below w.heap.size w w' := by
  have hst : Hid ((s ++ t).size ≤ maxLen) := by show (s ++ t).size ≤ maxLen; rw [size_append]; unfold maxLen; omega
  have hB := Below.refl w.heap.size w
  go_enter Try.func4, Try.ntmps4
  go_wp2_with (first | (go_at_call 10; go_in) | (go_at_call 8; refine (valid_from w _ _ (by assumption)).mono ?_; rintro e w1 ⟨rfl, hB1⟩) | (go_at_call 9; refine (model_any _ _ hst.out).mono ?_; rintro e w1 ⟨rfl, rfl⟩))
  go_ret
  exact ⟨rfl, by assumption⟩

set_option maxHeartbeats 1000000 in
theorem c_ft_false (s t : ByteArray) (w : World) (h4 : s.size ≤ 524288) (h5 : t.size ≤ 524288) (n1 : 1 ≤ s.size + t.size) (n2 : s.size + t.size ≤ 128) (hv : validB (s.data.toList ++ t.data.toList) = false) (es : s.toList.isEmpty = false) (et : t.toList.isEmpty = true) (vs : validB s.data.toList = false) :
    Calls Try.prog 4 #[.string s, .string t] w fun e w' => e = .returned (.bool true) ∧ Below w.heap.size w w' := by
  have hst : Hid ((s ++ t).size ≤ maxLen) := by show (s ++ t).size ≤ maxLen; rw [size_append]; unfold maxLen; omega
  have hB := Below.refl w.heap.size w
  go_enter Try.func4, Try.ntmps4
  go_wp2_with (first | (go_at_call 10; go_in) | (go_at_call 8; refine (valid_from w _ _ (by assumption)).mono ?_; rintro e w1 ⟨rfl, hB1⟩) | (go_at_call 9; refine (model_any _ _ hst.out).mono ?_; rintro e w1 ⟨rfl, rfl⟩))
  go_ret
  exact ⟨rfl, by assumption⟩

set_option maxHeartbeats 1000000 in
theorem c_ff_true_true (s t : ByteArray) (w : World) (h4 : s.size ≤ 524288) (h5 : t.size ≤ 524288) (n1 : 1 ≤ s.size + t.size) (n2 : s.size + t.size ≤ 128) (hv : validB (s.data.toList ++ t.data.toList) = true) (es : s.toList.isEmpty = false) (et : t.toList.isEmpty = false) (vs : validB s.data.toList = true) (vt : validB t.data.toList = true) :
    Calls Try.prog 4 #[.string s, .string t] w fun e w' => e = .returned (.bool true) ∧ Below w.heap.size w w' := by
  have hst : Hid ((s ++ t).size ≤ maxLen) := by show (s ++ t).size ≤ maxLen; rw [size_append]; unfold maxLen; omega
  have hB := Below.refl w.heap.size w
  go_enter Try.func4, Try.ntmps4
  go_wp2_with (first | (go_at_call 10; go_in) | (go_at_call 8; refine (valid_from w _ _ (by assumption)).mono ?_; rintro e w1 ⟨rfl, hB1⟩) | (go_at_call 9; refine (model_any _ _ hst.out).mono ?_; rintro e w1 ⟨rfl, rfl⟩))
  go_ret
  exact ⟨rfl, by assumption⟩

set_option maxHeartbeats 1000000 in
theorem c_ff_true_false (s t : ByteArray) (w : World) (h4 : s.size ≤ 524288) (h5 : t.size ≤ 524288) (n1 : 1 ≤ s.size + t.size) (n2 : s.size + t.size ≤ 128) (hv : validB (s.data.toList ++ t.data.toList) = false) (es : s.toList.isEmpty = false) (et : t.toList.isEmpty = false) (vs : validB s.data.toList = true) (vt : validB t.data.toList = false) :
    Calls Try.prog 4 #[.string s, .string t] w fun e w' => e = .returned (.bool true) ∧ Below w.heap.size w w' := by
  have hst : Hid ((s ++ t).size ≤ maxLen) := by show (s ++ t).size ≤ maxLen; rw [size_append]; unfold maxLen; omega
  have hB := Below.refl w.heap.size w
  go_enter Try.func4, Try.ntmps4
  go_wp2_with (first | (go_at_call 10; go_in) | (go_at_call 8; refine (valid_from w _ _ (by assumption)).mono ?_; rintro e w1 ⟨rfl, hB1⟩) | (go_at_call 9; refine (model_any _ _ hst.out).mono ?_; rintro e w1 ⟨rfl, rfl⟩))
  go_ret
  exact ⟨rfl, by assumption⟩

set_option maxHeartbeats 1000000 in
theorem c_ff_false_true (s t : ByteArray) (w : World) (h4 : s.size ≤ 524288) (h5 : t.size ≤ 524288) (n1 : 1 ≤ s.size + t.size) (n2 : s.size + t.size ≤ 128) (hv : validB (s.data.toList ++ t.data.toList) = false) (es : s.toList.isEmpty = false) (et : t.toList.isEmpty = false) (vs : validB s.data.toList = false) (vt : validB t.data.toList = true) :
    Calls Try.prog 4 #[.string s, .string t] w fun e w' => e = .returned (.bool true) ∧ Below w.heap.size w w' := by
  have hst : Hid ((s ++ t).size ≤ maxLen) := by show (s ++ t).size ≤ maxLen; rw [size_append]; unfold maxLen; omega
  have hB := Below.refl w.heap.size w
  go_enter Try.func4, Try.ntmps4
  go_wp2_with (first | (go_at_call 10; go_in) | (go_at_call 8; refine (valid_from w _ _ (by assumption)).mono ?_; rintro e w1 ⟨rfl, hB1⟩) | (go_at_call 9; refine (model_any _ _ hst.out).mono ?_; rintro e w1 ⟨rfl, rfl⟩))
  go_ret
  exact ⟨rfl, by assumption⟩

set_option maxHeartbeats 1000000 in
theorem c_ff_false_false (s t : ByteArray) (w : World) (h4 : s.size ≤ 524288) (h5 : t.size ≤ 524288) (n1 : 1 ≤ s.size + t.size) (n2 : s.size + t.size ≤ 128) (hv : validB (s.data.toList ++ t.data.toList) = false) (es : s.toList.isEmpty = false) (et : t.toList.isEmpty = false) (vs : validB s.data.toList = false) (vt : validB t.data.toList = false) :
    Calls Try.prog 4 #[.string s, .string t] w fun e w' => e = .returned (.bool true) ∧ Below w.heap.size w w' := by
  have hst : Hid ((s ++ t).size ≤ maxLen) := by show (s ++ t).size ≤ maxLen; rw [size_append]; unfold maxLen; omega
  have hB := Below.refl w.heap.size w
  go_enter Try.func4, Try.ntmps4
  go_wp2_with (first | (go_at_call 10; go_in) | (go_at_call 8; refine (valid_from w _ _ (by assumption)).mono ?_; rintro e w1 ⟨rfl, hB1⟩) | (go_at_call 9; refine (model_any _ _ hst.out).mono ?_; rintro e w1 ⟨rfl, rfl⟩))
  go_ret
  exact ⟨rfl, by assumption⟩

theorem isEmpty_true (s : ByteArray) (h : s.size = 0) : s.toList.isEmpty = true := by rw [(empty_size s).2 h]; rfl
theorem isEmpty_false (s : ByteArray) (h : ¬ s.size = 0) : s.toList.isEmpty = false := by
  cases e : s.toList.isEmpty with
  | false => rfl
  | true => exact absurd ((empty_size s).1 (List.isEmpty_iff.1 e)) h

/-- All those cases. -/
theorem walkC_in (s t : ByteArray) (w : World) (h4 : s.size ≤ 524288) (h5 : t.size ≤ 524288) :
    Calls Try.prog 4 #[.string s, .string t] w fun e w' => e = .returned (.bool true) ∧ Below w.heap.size w w' := by
  have law := valid_append s t
  by_cases n1 : s.size + t.size < 1
  · rw [decide_eq_false (p := 1 ≤ s.size + t.size) (by omega)] at law
    exact c_none s t w h4 h5 n1 law (isEmpty_true s (by omega)) (isEmpty_true t (by omega))
  rw [decide_eq_true (p := 1 ≤ s.size + t.size) (by omega)] at law
  by_cases n2 : 128 < s.size + t.size
  · rw [decide_eq_false (p := s.size + t.size ≤ 128) (by omega)] at law
    by_cases es : s.size = 0
    · exact c_long_tf s t w h4 h5 n2 law (isEmpty_true s es) (isEmpty_false t (by omega))
    · by_cases et : t.size = 0
      · exact c_long_ft s t w h4 h5 n2 law (isEmpty_false s es) (isEmpty_true t et)
      · exact c_long_ff s t w h4 h5 n2 law (isEmpty_false s es) (isEmpty_false t et)
  rw [decide_eq_true (p := s.size + t.size ≤ 128) (by omega)] at law
  by_cases es : s.size = 0
  · have et : ¬ t.size = 0 := by omega
    rw [decide_eq_true es, decide_eq_false et] at law
    cases vt : validB t.data.toList
    · rw [vt] at law; exact c_tf_false s t w h4 h5 (by omega) (by omega) law (isEmpty_true s es) (isEmpty_false t et) vt
    · rw [vt] at law; exact c_tf_true s t w h4 h5 (by omega) (by omega) law (isEmpty_true s es) (isEmpty_false t et) vt
  · by_cases et : t.size = 0
    · rw [decide_eq_false es, decide_eq_true et] at law
      cases vs : validB s.data.toList
      · rw [vs] at law; exact c_ft_false s t w h4 h5 (by omega) (by omega) law (isEmpty_false s es) (isEmpty_true t et) vs
      · rw [vs] at law; exact c_ft_true s t w h4 h5 (by omega) (by omega) law (isEmpty_false s es) (isEmpty_true t et) vs
    · rw [decide_eq_false es, decide_eq_false et] at law
      cases vs : validB s.data.toList <;> cases vt : validB t.data.toList <;> rw [vs, vt] at law
      · exact c_ff_false_false s t w h4 h5 (by omega) (by omega) law (isEmpty_false s es) (isEmpty_false t et) vs vt
      · exact c_ff_false_true s t w h4 h5 (by omega) (by omega) law (isEmpty_false s es) (isEmpty_false t et) vs vt
      · exact c_ff_true_false s t w h4 h5 (by omega) (by omega) law (isEmpty_false s es) (isEmpty_false t et) vs vt
      · exact c_ff_true_true s t w h4 h5 (by omega) (by omega) law (isEmpty_false s es) (isEmpty_false t et) vs vt

set_option maxHeartbeats 1000000 in
theorem walkC (s t : ByteArray) (hs : s.size ≤ maxLen) (ht : t.size ≤ maxLen) (w : World) :
    Calls Try.prog 4 #[.string s, .string t] w fun e w' => e = .returned (.bool true) ∧ Below w.heap.size w w' := by
  unfold maxLen at hs ht
  by_cases h1 : 1048576 < s.size
  · go_enter Try.func4, Try.ntmps4
    go_wp2
    go_ret
    exact ⟨rfl, Below.refl _ _⟩
  by_cases h2 : 1048576 < t.size
  · go_enter Try.func4, Try.ntmps4
    go_wp2
    go_ret
    exact ⟨rfl, Below.refl _ _⟩
  by_cases h3 : 1048576 < s.size + t.size
  · go_enter Try.func4, Try.ntmps4
    go_wp2
    go_ret
    exact ⟨rfl, Below.refl _ _⟩
  by_cases h4 : 524288 < s.size
  · go_enter Try.func4, Try.ntmps4
    go_wp2
    go_ret
    exact ⟨rfl, Below.refl _ _⟩
  by_cases h5 : 524288 < t.size
  · go_enter Try.func4, Try.ntmps4
    go_wp2
    go_ret
    exact ⟨rfl, Below.refl _ _⟩
  exact walkC_in s t w (by omega) (by omega)
end Go.Proofs.Qxb6605432a
