import Derived.Lib.ItoaNum
namespace Go.Proofs.Qxb6601572aDoor
open Go

/-! ### The plain side: a decimal numeral read back -/

/-- What a row of digit bytes is worth. -/
def dval (l : List UInt8) : Nat := l.foldl (fun a c => a * 10 + (c.toNat - 48)) 0

theorem dval_snoc (l : List UInt8) (c : UInt8) : dval (l ++ [c]) = dval l * 10 + (c.toNat - 48) := by
  simp [dval]

theorem dval_take (l : List UInt8) (k : Nat) (h : k < l.length) : dval (l.take (k + 1)) = dval (l.take k) * 10 + ((l[k]).toNat - 48) := by
  rw [List.take_succ_eq_append_getElem h, dval_snoc]

theorem dval_take_le (l : List UInt8) (k : Nat) : ∀ j, k + j ≤ l.length → dval (l.take k) ≤ dval (l.take (k + j))
  | 0, _ => Nat.le_refl _
  | j + 1, h => by
    have h1 := dval_take_le l k j (by omega)
    have h2 := dval_take l (k + j) (by omega)
    rw [show k + (j + 1) = k + j + 1 by omega, h2]
    omega

theorem dval_le (l : List UInt8) (k : Nat) (h : k ≤ l.length) : dval (l.take k) ≤ dval l := by
  have := dval_take_le l k (l.length - k) (by omega)
  rwa [show k + (l.length - k) = l.length by omega, List.take_length] at this

/-- Every byte a digit. -/
def Dig (l : List UInt8) : Prop := ∀ c ∈ l, 48 ≤ c.toNat ∧ c.toNat ≤ 57

theorem digits_ok : ∀ u : Nat, dval (Lib.decDigits u) = u ∧ Dig (Lib.decDigits u) ∧ 1 ≤ (Lib.decDigits u).length ∧ (1 ≤ u → ∀ c l, Lib.decDigits u = c :: l → c.toNat ≠ 48) ∧ (1 < (Lib.decDigits u).length → 1 ≤ u) := by
  intro u
  induction u using Nat.strongRecOn with
  | _ u ih =>
    by_cases h : u < 10
    · rw [Lib.decDigits_one h]
      have hc : (UInt8.ofNat (48 + u)).toNat = 48 + u := by simp; omega
      generalize UInt8.ofNat (48 + u) = b at *
      refine ⟨by simp [dval, hc], fun c hcm => ?_, by simp, fun h1 c l e => ?_, fun hl => by simp at hl⟩
      · simp at hcm; subst hcm; omega
      · simp at e; rw [← e.1]; omega
    · rw [Lib.decDigits, dif_neg h]
      obtain ⟨h1, h2, h3, h4, h5⟩ := ih (u / 10) (by omega)
      have hc : (UInt8.ofNat (48 + u % 10)).toNat = 48 + u % 10 := by simp; omega
      generalize UInt8.ofNat (48 + u % 10) = b at *
      refine ⟨by rw [dval_snoc, h1, hc]; omega, fun c hcm => ?_, by simp, fun _ c l e => ?_, fun _ => by omega⟩
      · rcases List.mem_append.1 hcm with hm | hm
        · exact h2 c hm
        · simp at hm; subst hm; omega
      · cases hd : Lib.decDigits (u / 10) with
        | nil => rw [hd] at h3; simp at h3
        | cons x xs =>
          rw [hd] at e
          simp at e
          rw [← e.1]
          exact h4 (by omega) x xs hd
end Go.Proofs.Qxb6601572aDoor
