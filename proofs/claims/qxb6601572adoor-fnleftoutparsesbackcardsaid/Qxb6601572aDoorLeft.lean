import Derived.Test.Qxb6601572aDoorShelf
import Derived.Test.Qxb6601572aDoorPlain
import Derived.WalkKit
import Derived.ProofKit
import Derived.WalkSpells
import Derived.OpenShut
import Derived.Lib.SmallJoins
namespace Go.Proofs.Qxb6601572aDoor
open Go.RowKit

/-- " left out)" -/
def tailB : List UInt8 := [32, 108, 101, 102, 116, 32, 111, 117, 116, 41]
/-- The unit as the mark spells it. -/
def plural (n : Int) (u : List UInt8) : List UInt8 := if n = 1 then u else u ++ [115]
/-- The mark. -/
def mark (n : Int) (u : List UInt8) : List UInt8 := [126, 40] ++ (Lib.itoa n ++ 32 :: plural n u) ++ tailB

theorem below_grow (w : World) (k : Nat) (os : Array Obj) : Below w.heap.size w (Sort.grow (w.drewN k) os) :=
  ⟨rfl, rfl, rfl, by simp [Sort.grow], fun j hj => by show (w.heap ++ os)[j]? = w.heap[j]?; rw [Array.getElem?_append_left hj]⟩

theorem nDigits_le : ∀ (k u : Nat), u < 10 ^ (k + 1) → Lib.nDigits u ≤ k + 1
  | 0, u, h => by rw [Lib.nDigits_small (by simpa using h)]; omega
  | k + 1, u, h => by
    by_cases h1 : u < 10
    · rw [Lib.nDigits_small h1]; omega
    · rw [Lib.nDigits_big h1]
      have := nDigits_le k (u / 10) (by rw [Nat.pow_succ] at h; omega)
      omega

theorem itoa_len (n : Int) (h0 : -9223372036854775808 ≤ n) (h1 : n ≤ 9223372036854775807) : (Lib.itoa n).length ≤ 100 := by
  unfold Lib.itoa
  split
  · have := nDigits_le 19 n.natAbs (by omega)
    simp [Lib.decDigits_length]; omega
  · have := nDigits_le 19 n.toNat (by omega)
    rw [Lib.decDigits_length]; omega

set_option maxHeartbeats 400000 in
theorem left_any (n : Int) (s : ByteArray) (w : World) (h0 : -9223372036854775808 ≤ n) (h1 : n ≤ 9223372036854775807) (hs : s.size ≤ 1048576) (htab : Lib.TabIs Tryd.prog w powName .u64 Lib.pow10Tab) :
    Calls Tryd.prog 5 #[.int .i64 n, .string s] w fun e w' => ∃ m : ByteArray, e = .returned (.string m) ∧ m.data.toList = mark n s.data.toList ∧ Below w.heap.size w w' := by
  have HT : Hid (Lib.TabIs Tryd.prog w powName .u64 Lib.pow10Tab) := htab
  have hlen := itoa_len n h0 h1
  clear htab
  by_cases hn : n = 1
  · have hne : (n != 1) = false := by rw [hn]; rfl
    have HN : Hid (n = 1) := hn
    clear hn
    go_enter Tryd.func5, Tryd.ntmps5
    go_wp2_with fail
    refine (Tryd.strconv_Itoa n h0 h1 _ HT.out).mono ?_
    rintro e w1 ⟨rfl, k, os, rfl⟩
    go_wp2
    go_ret
    refine ⟨_, rfl, ?_, below_grow _ _ _⟩
    simp only [Joins.data_append, mark, plural, HN.out, if_true, tailB]
    simp
  · have hne : (n != 1) = true := by rw [bne_iff_ne]; exact hn
    have HN : Hid (¬ n = 1) := hn
    clear hn
    go_enter Tryd.func5, Tryd.ntmps5
    go_wp2_with fail
    refine (Tryd.strconv_Itoa n h0 h1 _ HT.out).mono ?_
    rintro e w1 ⟨rfl, k, os, rfl⟩
    go_wp2
    go_ret
    refine ⟨_, rfl, ?_, below_grow _ _ _⟩
    simp only [Joins.data_append, mark, plural, HN.out, if_false, tailB]
    simp
end Go.Proofs.Qxb6601572aDoor
