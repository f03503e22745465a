import Derived.Test.Qxb6605432aBytes
namespace Go.Proofs.Qxb6605432a
open Go.RowKit

/-- 1 to 128 bytes, each of the set. Not reducible. -/
def validB (l : List UInt8) : Bool := decide (1 ≤ l.length) && decide (l.length ≤ 128) && l.all (fun c => inB c.toNat)

theorem size_list (s : ByteArray) : s.data.toList.length = s.size := by rw [Array.length_toList]; rfl

theorem get_list (s : ByteArray) (j : Nat) (hj : j < s.size) : s.data.toList[j]'(by rw [size_list]; exact hj) = s[j] := rfl

theorem valid_short (s : ByteArray) (h : s.size < 1 ∨ 128 < s.size) : validB s.data.toList = false := by
  unfold validB
  rw [size_list]
  rcases h with h | h
  · rw [decide_eq_false (p := 1 ≤ s.size) (by omega)]; rfl
  · rw [decide_eq_false (p := s.size ≤ 128) (by omega)]; simp

theorem valid_bad (s : ByteArray) (j : Nat) (hj : j < s.size) (h : inB (s[j].toNat : Int) = false) : validB s.data.toList = false := by
  cases hv : validB s.data.toList with
  | false => rfl
  | true =>
    unfold validB at hv
    simp only [Bool.and_eq_true, List.all_eq_true] at hv
    have := hv.2 s[j] (by rw [← get_list s j hj]; exact List.getElem_mem _)
    rw [h] at this
    exact this.symm

theorem valid_good (s : ByteArray) (h1 : 1 ≤ s.size) (h2 : s.size ≤ 128) (h : ∀ j (hj : j < s.size), inB (s[j].toNat : Int) = true) : validB s.data.toList = true := by
  unfold validB
  simp only [Bool.and_eq_true, List.all_eq_true, decide_eq_true_eq, size_list]
  refine ⟨⟨h1, h2⟩, fun c hc => ?_⟩
  obtain ⟨j, hj, rfl⟩ := List.getElem_of_mem hc
  exact h j (by rw [← size_list]; exact hj)

set_option maxHeartbeats 400000 in
theorem valid_any (s : ByteArray) (w : World) :
    Calls Try.prog 8 #[.string s] w fun e w' => e = .returned (.bool (validB s.data.toList)) ∧ Below w.heap.size w w' := by
  by_cases h1 : s.size < 1
  · have hv := valid_short s (.inl h1)
    rw [hv]
    go_enter Try.func8, Try.ntmps8
    go_wp2
    go_ret
    exact ⟨rfl, Below.refl _ _⟩
  by_cases h2 : 128 < s.size
  · have hv := valid_short s (.inr h2)
    rw [hv]
    go_enter Try.func8, Try.ntmps8
    go_wp2
    go_ret
    exact ⟨rfl, Below.refl _ _⟩
  have hconv := run_bytes_of_string (P := Try.prog) w 9 25 5 s Try.underlying9 Try.underlying25 Try.underlying5
  have hrow := bytesRow_at s (grownCap w s.size 0 5)
  generalize grownCap w s.size 0 5 = cap at *
  generalize bytesRow s cap = C at *
  have hcell : ∀ j (hj : j < s.size), (w.alloc (.cells C 5 (C.size, C.size + 1))).cell? ⟨w.heap.size, j, none⟩ = some (.int .u8 (s[j].toNat : Int)) := fun j hj => by
    rw [World.cell?_alloc_mark]; exact hrow j hj
  clear hrow
  have hbel : Hid (Below w.heap.size w (w.alloc (.cells C 5 (C.size, C.size + 1))).drew) := ((Below.refl _ _).alloc (Nat.le_refl _) _).drew
  go_enter Try.func8, Try.ntmps8
  go_wp2
  go_loop [16] (fun i => ∃ k : Nat, k ≤ s.size ∧ i = .int .i64 k ∧ Hid (∀ j (hj : j < s.size), j < k → inB (s[j].toNat : Int) = true)) (fun i => s.size - (intOf i).toNat)
  case atStart => exact ⟨0, by omega, rfl, fun _ _ h => absurd h (by omega)⟩
  case round =>
    obtain ⟨k, hk, rfl, hno⟩ := hrel
    by_cases hlt : k < s.size
    · have hck := hcell k hlt
      cases hb : inB (s[k].toNat : Int)
      · go_wp2_with (go_at_call 15; refine (byte_any _ _).mono ?_; rintro e w' ⟨rfl, rfl⟩)
        go_ret
        exact ⟨ret_bool (valid_bad s k hlt hb).symm, hbel.out⟩
      · go_wp2_with (go_at_call 15; refine (byte_any _ _).mono ?_; rintro e w' ⟨rfl, rfl⟩)
        go_round
        case rel =>
          refine ⟨k + 1, by omega, by go_num, fun j hj hjk => ?_⟩
          by_cases e : j = k
          · subst e; exact hb
          · exact hno.out j hj (by omega)
        case measure => simp [intOf]; omega
    · go_wp2
      go_ret
      exact ⟨ret_bool (valid_good s (by omega) (by omega) fun j hj => hno.out j hj (by omega)).symm, hbel.out⟩
end Go.Proofs.Qxb6605432a
