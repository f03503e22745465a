import Derived.Test.Qxb6605432aRows
import Derived.WalkKit
import Derived.ProofKit
import Derived.WalkSpells
namespace Go.Proofs.Qxb6605432a
open Go.RowKit

/-- The documented set of bytes, as ranges. Not reducible: the walk leaves it alone. -/
def inB (n : Int) : Bool := (decide (65 ≤ n) && decide (n ≤ 90)) || (decide (97 ≤ n) && decide (n ≤ 122)) || (decide (48 ≤ n) && decide (n ≤ 57)) || n == 46 || n == 95 || n == 64 || n == 45

/-- The alphabet that the law searches. -/
abbrev alph : ByteArray := { data := #[65, 66, 67, 68, 69, 70, 71, 72, 73, 74, 75, 76, 77, 78, 79, 80, 81, 82, 83, 84, 85, 86, 87, 88, 89, 90, 97, 98, 99, 100, 101, 102, 103, 104, 105, 106, 107, 108, 109, 110, 111, 112, 113, 114, 115, 116, 117, 118, 119, 120, 121, 122, 48, 49, 50, 51, 52, 53, 54, 55, 56, 57, 46, 95, 64, 45] }

theorem ret_bool {a b : Bool} (h : a = b) : Ending.returned (.bool a) = .returned (.bool b) := by rw [h]

theorem alph_in : ∀ k : Fin 66, inB (alph[k.1]'k.2).toNat = true := by decide +kernel
theorem in_alph : ∀ m : Fin 123, inB m.1 = true → ∃ j : Fin 66, (alph[j.1]'j.2).toNat = m.1 := by decide +kernel

theorem alpha_hit (n : Int) (k : Nat) (hk : k < 66) (h : (((alph[k]'hk).toNat : Int) == n) = true) : inB n = true := by
  have e : ((alph[k]'hk).toNat : Int) = n := by simpa using h
  rw [← e]
  exact alph_in ⟨k, hk⟩

theorem inB_range (n : Int) (h : inB n = true) : 0 ≤ n ∧ n < 123 := by
  simp [inB] at h
  omega

theorem alpha_miss (n : Int) (h : ∀ j (hj : j < 66), (((alph[j]'hj).toNat : Int) == n) = false) : inB n = false := by
  cases hb : inB n with
  | false => rfl
  | true =>
    obtain ⟨h0, h1⟩ := inB_range n hb
    obtain ⟨m, rfl⟩ := Int.eq_ofNat_of_zero_le h0
    obtain ⟨j, hj⟩ := in_alph ⟨m, by omega⟩ hb
    have := h j.1 j.2
    simp [hj] at this

set_option maxHeartbeats 400000 in
theorem byte_any (n : Int) (w : World) :
    Calls Try.prog 15 #[.int .u8 n] w fun e w' => e = .returned (.bool (inB n)) ∧ w = w' := by
  go_enter Try.func15, Try.ntmps15
  go_wp2
  all_goals
    go_ret
    refine ⟨ret_bool ?_, rfl⟩
    first | (simp [inB]; done) | (rw [Bool.eq_iff_iff]; simp [inB]; omega)

set_option maxHeartbeats 400000 in
theorem alpha_any (n : Int) (w : World) :
    Calls Try.prog 11 #[.int .u8 n] w fun e w' => e = .returned (.bool (inB n)) ∧ w = w' := by
  go_enter Try.func11, Try.ntmps11
  go_wp2
  go_loop [3] (fun i => ∃ k : Nat, k ≤ 66 ∧ i = .int .i64 k ∧ Hid (∀ j (hj : j < 66), j < k → (((alph[j]'hj).toNat : Int) == n) = false)) (fun i => 66 - (intOf i).toNat)
  case atStart => exact ⟨0, by omega, rfl, fun _ _ h => absurd h (by omega)⟩
  case round =>
    obtain ⟨k, hk, rfl, hno⟩ := hrel
    by_cases hlt : k < 66
    · go_wp2
      · go_ret
        exact ⟨ret_bool (alpha_hit n k hlt (by assumption)).symm, rfl⟩
      · have hm : (((alph[k]'hlt).toNat : Int) == n) = false := by assumption
        go_round
        case rel =>
          refine ⟨k + 1, by omega, by go_num, fun j hj hjk => ?_⟩
          by_cases e : j = k
          · subst e; exact hm
          · exact hno.out j hj (by omega)
        case measure => simp [intOf]; omega
    · go_wp2
      go_ret
      exact ⟨ret_bool (alpha_miss n fun j hj => hno.out j hj (by omega)).symm, rfl⟩
end Go.Proofs.Qxb6605432a
