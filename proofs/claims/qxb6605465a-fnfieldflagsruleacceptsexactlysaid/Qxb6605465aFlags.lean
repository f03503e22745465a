import Derived.Test.Qxb6605465aRows
import Derived.WalkKit
import Derived.ProofKit
import Derived.WalkSpells
import Derived.OpenShut
namespace Go.Proofs.Qxb6605465a
open Go.RowKit

/-! ### The plain law, over natural numbers below 65536 -/

/-- fieldFlagsRule finds no fault. -/
def okN (m : Nat) (b : Bool) : Bool :=
  (((m &&& 20703) &&& 7) &&& ((((m &&& 20703) &&& 7) + 65535) % 65536)) == 0 && !(((m &&& 20703) &&& 80) == 80) && !(b && ((m &&& 20703) &&& 61439) != 25)

def inN (m : Nat) : Bool := (m &&& 20703) == 25 || (m &&& 20703) == 4121
def outN (m : Nat) : Bool := decide ((if (m &&& 1) != 0 then 1 else 0) + (if (m &&& 2) != 0 then 1 else 0) + (if (m &&& 4) != 0 then 1 else 0) ≤ 1) && ((m &&& 80) != 80)

def lawN (m : Nat) : Bool := okN m true == inN m && okN m false == outN m

theorem lawN_fold (m : Nat) : lawN (m &&& 20703) = lawN m := by
  have e : (m &&& 20703) &&& 20703 = m &&& 20703 := by rw [Nat.and_assoc]; rfl
  have e1 : (m &&& 20703) &&& 1 = m &&& 1 := by rw [Nat.and_assoc]; rfl
  have e2 : (m &&& 20703) &&& 2 = m &&& 2 := by rw [Nat.and_assoc]; rfl
  have e4 : (m &&& 20703) &&& 4 = m &&& 4 := by rw [Nat.and_assoc]; rfl
  have e80 : (m &&& 20703) &&& 80 = m &&& 80 := by rw [Nat.and_assoc]; rfl
  unfold lawN okN inN outN
  rw [e, e1, e2, e4, e80]

theorem mask80 : ∀ x : Fin 256, (x.1 &&& 80) = 0 ∨ (x.1 &&& 80) = 16 ∨ (x.1 &&& 80) = 64 ∨ (x.1 &&& 80) = 80 := by decide +kernel

theorem lawN_0 : ∀ y : Fin 256, lawN (256 * 0 + y.1) = true := by decide +kernel
theorem lawN_16 : ∀ y : Fin 256, lawN (256 * 16 + y.1) = true := by decide +kernel
theorem lawN_64 : ∀ y : Fin 256, lawN (256 * 64 + y.1) = true := by decide +kernel
theorem lawN_80 : ∀ y : Fin 256, lawN (256 * 80 + y.1) = true := by decide +kernel

theorem lawN_any (m : Nat) (h : m < 65536) : lawN m = true := by
  rw [← lawN_fold, ← Nat.div_add_mod (m &&& 20703) 256]
  have hd : (m &&& 20703) / 256 = (m / 256) &&& 80 := Nat.and_div_two_pow (a := m) (b := 20703) (n := 8)
  have hm : (m &&& 20703) % 256 < 256 := Nat.mod_lt _ (by decide)
  rw [hd]
  generalize (m &&& 20703) % 256 = l at *
  rcases mask80 ⟨m / 256, by omega⟩ with e | e | e | e <;> simp only at e <;> rw [e]
  · exact lawN_0 ⟨l, hm⟩
  · exact lawN_16 ⟨l, hm⟩
  · exact lawN_64 ⟨l, hm⟩
  · exact lawN_80 ⟨l, hm⟩

/-! ### The rule's contract -/

/-- The same in the walk's own words. Not reducible. -/
def okR (n : Int) (b : Bool) : Bool :=
  (bits .and .u16 (bits .and .u16 (bits .and .u16 n 20703) 7) (IntKind.u16.wrap (bits .and .u16 (bits .and .u16 n 20703) 7 - 1)) == 0) && !(bits .and .u16 (bits .and .u16 n 20703) 80 == 80) && !(b && (bits .andNot .u16 (bits .and .u16 n 20703) 4096 != 25))

theorem okR_eq (m : Nat) (h : m < 65536) (b : Bool) : okR m b = okN m b := by
  unfold okR okN
  have hf : (m &&& 20703) < 65536 := Nat.lt_of_le_of_lt Nat.and_le_left h
  have h7 : ((m &&& 20703) &&& 7) < 65536 := Nat.lt_of_le_of_lt Nat.and_le_left hf
  have e0 : bits .and .u16 (m : Int) 20703 = ((m &&& 20703 : Nat) : Int) := u16_and_nat m 20703 h (by decide)
  rw [e0]
  have e7 : bits .and .u16 ((m &&& 20703 : Nat) : Int) 7 = (((m &&& 20703) &&& 7 : Nat) : Int) := u16_and_nat _ 7 hf (by decide)
  have e80 : bits .and .u16 ((m &&& 20703 : Nat) : Int) 80 = (((m &&& 20703) &&& 80 : Nat) : Int) := u16_and_nat _ 80 hf (by decide)
  have en : bits .andNot .u16 ((m &&& 20703 : Nat) : Int) 4096 = (((m &&& 20703) &&& 61439 : Nat) : Int) := u16_andNot_nat _ 4096 hf (by decide)
  rw [e7, e80, en]
  generalize (m &&& 20703) &&& 61439 = z
  generalize (m &&& 20703) &&& 80 = y
  generalize (m &&& 20703) &&& 7 = x at *
  have ew : IntKind.u16.wrap ((x : Int) - 1) = (((x + 65535) % 65536 : Nat) : Int) := by rw [IntKind.wrap_u16]; omega
  rw [ew, u16_and_nat _ _ h7 (Nat.mod_lt _ (by decide))]
  have c : ∀ (a : Nat) (k : Nat), (((a : Nat) : Int) == ((k : Nat) : Int)) = (a == k) := fun a k => by
    rw [Bool.eq_iff_iff]; simp; omega
  have c0 := c (x &&& (x + 65535) % 65536) 0
  have c1 := c y 80
  have c2 := c z 25
  have d0 : ((0 : Nat) : Int) = 0 := rfl
  have d1 : ((80 : Nat) : Int) = 80 := rfl
  have d2 : ((25 : Nat) : Int) = 25 := rfl
  rw [d0] at c0; rw [d1] at c1; rw [d2] at c2
  rw [c0, c1]
  unfold bne
  rw [c2]

set_option maxHeartbeats 400000 in
theorem rule_any (n : Int) (b : Bool) (w : World) :
    Calls Try.prog 15 #[.int .u16 n, .bool b] w fun e w' => ∃ s, e = .returned (.string s) ∧ s.toList.isEmpty = okR n b ∧ w = w' := by
  go_enter Try.func15, Try.ntmps15
  go_wp2
  all_goals
    go_ret
    refine ⟨_, rfl, ?_, rfl⟩
    unfold okR
    simp_all

set_option maxHeartbeats 400000 in
theorem zz_any (n : Int) (b : Bool) (w : World) :
    Calls Try.prog 6 #[.int .u16 n, .bool b] w fun e w' => ∃ s, e = .returned (.string s) ∧ s.toList.isEmpty = okR n b ∧ w = w' := by
  go_enter Try.func6, Try.ntmps6
  go_wp2_with (go_at_call 15; refine (rule_any _ _ _).mono ?_; rintro e w' ⟨s, rfl, hs, rfl⟩)
  go_ret
  exact ⟨_, rfl, hs, rfl⟩

set_option linter.unusedSimpArgs false in
set_option maxHeartbeats 4000000 in
/-- One walk a case, every test decided ahead. -/
theorem flags_walk (n : Int) (w : World) (d1 d2 b1 b2 b4 v t f : Bool)
    (hd1 : (bits .and .u16 n 20703 == 25) = d1) (hd2 : (bits .and .u16 n 20703 == 4121) = d2)
    (hb1 : (bits .and .u16 n 1 != 0) = b1) (hb2 : (bits .and .u16 n 2 != 0) = b2) (hb4 : (bits .and .u16 n 4 != 0) = b4) (hv : (bits .and .u16 n 80 != 80) = v)
    (ht : okR n true = t) (hf : okR n false = f) (e1 : t = (d1 || d2)) (e2 : f = (decide ((if b1 then 1 else 0) + (if b2 then 1 else 0) + (if b4 then 1 else 0) ≤ 1) && v)) :
    Calls Try.prog 3 #[.int .u16 n] w fun e w' => e = .returned (.bool true) ∧ w = w' := by
  cases d1 <;> cases d2 <;> cases b1 <;> cases b2 <;> cases b4 <;> cases v
  all_goals
    simp only [Bool.or_self, Bool.or_true, Bool.or_false, Bool.true_or, Bool.false_or, Bool.false_eq_true, if_false, if_true, Bool.and_false, Bool.and_true, Bool.true_and, Bool.false_and, Nat.reduceAdd, Nat.reduceLeDiff, decide_true, decide_false] at e1 e2
    subst e1 e2
    go_enter Try.func3, Try.ntmps3
    go_wp2_with (go_at_call 6; refine (zz_any _ _ _).mono ?_; rintro e w' ⟨s, rfl, hs, rfl⟩; simp only [ht, hf] at hs)
    go_ret
    exact ⟨rfl, rfl⟩

theorem walkF (n : Int) (hn : (Lit.int .u16 n).wf = true) (w : World) :
    Calls Try.prog 3 #[.int .u16 n] w fun e w' => e = .returned (.bool true) ∧ w = w' := by
  have hb := bounds_u16 hn
  obtain ⟨m, rfl⟩ := Int.eq_ofNat_of_zero_le hb.1
  have hm : m < 65536 := by omega
  have law := lawN_any m hm
  unfold lawN at law
  simp only [Bool.and_eq_true, beq_iff_eq] at law
  have eb : ∀ k : Nat, k < 65536 → bits .and .u16 (m : Int) (k : Int) = ((m &&& k : Nat) : Int) := fun k hk => u16_and_nat m k hm hk
  have c : ∀ (a : Nat) (k : Nat), (((a : Nat) : Int) == ((k : Nat) : Int)) = (a == k) := fun a k => by
    rw [Bool.eq_iff_iff]; simp; omega
  have cn : ∀ (a : Nat) (k : Nat), (((a : Nat) : Int) != ((k : Nat) : Int)) = (a != k) := fun a k => by
    unfold bne; rw [c]
  refine flags_walk m w _ _ _ _ _ _ _ _ rfl rfl rfl rfl rfl rfl rfl rfl ?_ ?_
  · rw [okR_eq m hm, law.1]
    unfold inN
    have h := eb 20703 (by decide)
    have h1 := c (m &&& 20703) 25
    have h2 := c (m &&& 20703) 4121
    rw [← h1, ← h2, ← h]
    rfl
  · rw [okR_eq m hm, law.2]
    unfold outN
    have h1 := cn (m &&& 1) 0
    have h2 := cn (m &&& 2) 0
    have h4 := cn (m &&& 4) 0
    have h80 := cn (m &&& 80) 80
    rw [← h1, ← h2, ← h4, ← h80, ← eb 1 (by decide), ← eb 2 (by decide), ← eb 4 (by decide), ← eb 80 (by decide)]
    rfl
end Go.Proofs.Qxb6605465a
