import Derived.Test.Qxb6605432aModel
namespace Go.Proofs.Qxb6605432a
open Go.RowKit

/-- ValidActorID, the world told from an earlier one on. -/
theorem validD (w0 w : World) (s : ByteArray) (h : Below w0.heap.size w0 w) :
    Calls Try.prog 8 #[.string s] w fun e w' => e = .returned (.bool (validB s.data.toList)) ∧ Below w0.heap.size w0 w' :=
  (valid_any s w).mono fun _ _ ⟨he, hb⟩ => ⟨he, h.trans (hb.mono h.size)⟩

abbrev notId : ByteArray := { data := #[40, 110, 111, 116, 32, 97, 32, 118, 97, 108, 105, 100, 32, 97, 99, 116, 111, 114, 32, 105, 100, 41] }

theorem notId_bad : validB notId.data.toList = false := by decide +kernel

theorem emptyD (s : ByteArray) : s.toList = [] ↔ s.size = 0 := by
  rw [ByteArray.toList_eq, ← size_list, List.length_eq_zero_iff]

set_option maxHeartbeats 400000 in
theorem actor_empty (s : ByteArray) (w : World) (es : s.toList.isEmpty = true) :
    Calls Try.prog 14 #[.string s] w fun e w' => e = .returned (.string s) ∧ w = w' := by
  go_enter Try.func14, Try.ntmps14
  go_wp2
  go_ret
  exact ⟨rfl, rfl⟩

set_option maxHeartbeats 400000 in
theorem actor_valid (w0 w : World) (s : ByteArray) (es : s.toList.isEmpty = false) (vs : validB s.data.toList = true) (hB : Below w0.heap.size w0 w) :
    Calls Try.prog 14 #[.string s] w fun e w' => e = .returned (.string s) ∧ Below w0.heap.size w0 w' := by
  go_enter Try.func14, Try.ntmps14
  go_wp2_with (go_at_call 8; refine (validD w0 _ _ (by assumption)).mono ?_; rintro e w1 ⟨rfl, hB1⟩)
  go_ret
  exact ⟨rfl, by assumption⟩

set_option maxHeartbeats 400000 in
theorem actor_bad (w0 w : World) (s : ByteArray) (es : s.toList.isEmpty = false) (vs : validB s.data.toList = false) (hB : Below w0.heap.size w0 w) :
    Calls Try.prog 14 #[.string s] w fun e w' => e = .returned (.string notId) ∧ Below w0.heap.size w0 w' := by
  go_enter Try.func14, Try.ntmps14
  go_wp2_with (go_at_call 8; refine (validD w0 _ _ (by assumption)).mono ?_; rintro e w1 ⟨rfl, hB1⟩)
  go_ret
  exact ⟨rfl, by assumption⟩

set_option maxHeartbeats 400000 in
theorem d_empty (s : ByteArray) (w : World) (h1 : s.size = 0) (es : s.toList.isEmpty = true) :
    Calls Try.prog 6 #[.string s] w fun e w' => e = .returned (.bool true) ∧ Below w.heap.size w w' := by
  have hB := Below.refl w.heap.size w
  have hbad := notId_bad
  go_enter Try.func6, Try.ntmps6
  go_wp2_with (first | (go_at_call 13; go_in) | (go_at_call 14; refine (actor_empty _ _ es).mono ?_; rintro e w1 ⟨rfl, rfl⟩) | (go_at_call 8; refine (validD w _ _ (by assumption)).mono ?_; rintro e w1 ⟨rfl, hB1⟩))
  go_ret
  exact ⟨rfl, by assumption⟩

theorem notId_full : notId.toList.isEmpty = false := by decide +kernel

/-- What is valid is not the marker: in the walk's own form. -/
theorem valid_ne (s : ByteArray) (vs : validB s.data.toList = true) : (s.toList == [40, 110, 111, 116, 32, 97, 32, 118, 97, 108, 105, 100, 32, 97, 99, 116, 111, 114, 32, 105, 100, 41]) = false := by
  cases h : (s.toList == [40, 110, 111, 116, 32, 97, 32, 118, 97, 108, 105, 100, 32, 97, 99, 116, 111, 114, 32, 105, 100, 41]) with
  | false => rfl
  | true =>
    have e := eq_of_beq h
    rw [ByteArray.toList_eq] at e
    rw [e] at vs
    exact absurd (notId_bad.symm.trans vs) (by decide)

set_option maxHeartbeats 400000 in
theorem d_valid (s : ByteArray) (w : World) (h1 : 1 ≤ s.size) (h2 : s.size ≤ 1048576) (es : s.toList.isEmpty = false) (vs : validB s.data.toList = true) :
    Calls Try.prog 6 #[.string s] w fun e w' => e = .returned (.bool true) ∧ Below w.heap.size w w' := by
  have hB := Below.refl w.heap.size w
  have hbad := notId_bad
  have hne := valid_ne s vs
  have hs : Hid (s.size ≤ maxLen) := by show s.size ≤ maxLen; unfold maxLen; omega
  have h0 : ((s.size : Int) == 0) = false := beq_eq_false_iff_ne.2 (by omega)
  go_enter Try.func6, Try.ntmps6
  go_wp2_with (first | (go_at_call 13; go_in) | (go_at_call 14; refine (actor_valid w _ _ es vs (by assumption)).mono ?_; rintro e w1 ⟨rfl, hB1⟩) | (go_at_call 8; refine (validD w _ _ (by assumption)).mono ?_; rintro e w1 ⟨rfl, hB1⟩) | (go_at_call 9; refine (model_any _ _ hs.out).mono ?_; rintro e w1 ⟨rfl, rfl⟩))
  go_ret
  exact ⟨rfl, by assumption⟩

set_option maxHeartbeats 400000 in
theorem d_bad (s : ByteArray) (w : World) (h1 : 1 ≤ s.size) (h2 : s.size ≤ 1048576) (es : s.toList.isEmpty = false) (vs : validB s.data.toList = false) :
    Calls Try.prog 6 #[.string s] w fun e w' => e = .returned (.bool true) ∧ Below w.heap.size w w' := by
  have hB := Below.refl w.heap.size w
  have hbad := notId_bad
  have hs : Hid (s.size ≤ maxLen) := by show s.size ≤ maxLen; unfold maxLen; omega
  have h0 : ((s.size : Int) == 0) = false := beq_eq_false_iff_ne.2 (by omega)
  go_enter Try.func6, Try.ntmps6
  go_wp2_with (go_at_call 13; go_in)
  refine (actor_bad w _ s es vs hB).mono ?_
  rintro e w1 ⟨rfl, hB1⟩
  go_wp2_with fail
  refine (model_any _ _ hs.out).mono ?_
  rintro e w2 ⟨rfl, rfl⟩
  go_wp2_with fail
  refine (actor_bad w _ notId notId_full notId_bad hB1).mono ?_
  rintro e w2 ⟨rfl, hB2⟩
  go_wp2_with (go_at_call 8; refine (validD w _ _ (by assumption)).mono ?_; rintro e w1 ⟨rfl, hB1⟩)
  go_ret
  exact ⟨rfl, by assumption⟩

set_option maxHeartbeats 400000 in
theorem walkD (s : ByteArray) (hs : s.size ≤ maxLen) (w : World) :
    Calls Try.prog 6 #[.string s] w fun e w' => e = .returned (.bool true) ∧ Below w.heap.size w w' := by
  by_cases h0 : s.size = 0
  · exact d_empty s w h0 (by rw [(emptyD s).2 h0]; rfl)
  by_cases h1 : s.size ≤ 1048576
  · have es : s.toList.isEmpty = false := by
      cases e : s.toList.isEmpty with
      | false => rfl
      | true => exact absurd ((emptyD s).1 (List.isEmpty_iff.1 e)) h0
    cases vs : validB s.data.toList
    · exact d_bad s w (by omega) h1 es vs
    · exact d_valid s w (by omega) h1 es vs
  unfold maxLen at hs
  go_enter Try.func6, Try.ntmps6
  go_wp2
  go_ret
  exact ⟨rfl, Below.refl _ _⟩
end Go.Proofs.Qxb6605432a
