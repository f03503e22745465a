import Derived.Test.Qxb6605465aRows
import Derived.WalkKit
import Derived.ProofKit
import Derived.WalkSpells
import Derived.OpenShut
import Derived.Deep.QuietTactic
import Derived.BigQuiet
import Derived.Deep.OwnRows
namespace Go.Proofs.Qxb6605465a
open Go.RowKit

/-- The value v is a slice of bytes that reads as l in the world w; its block is B or younger (nil is any). -/
def Bts (B : Nat) (w : World) (v : Value) (l : List UInt8) : Prop :=
  (v = .slice none 0 0 ∧ l = []) ∨
  ∃ b off cap sp, v = .slice (some ⟨b, off, sp⟩) l.length cap ∧ B ≤ b ∧ (l ≠ [] → sp = none) ∧ ∀ i (h : i < l.length), w.cell? ⟨b, off + i, none⟩ = some (.int .u8 (l[i].toNat : Int))

theorem ret_bool {a b : Bool} (h : a = b) : Ending.returned (.bool a) = .returned (.bool b) := by rw [h]

theorem Bts.mono {B : Nat} {w w' : World} {v : Value} {l : List UInt8} (h : Bts B w v l) {C : Nat} (hC : w.heap.size ≤ C) (hb : Below C w w') : Bts B w' v l := by
  rcases h with h | ⟨b, off, cap, sp, hv, hB, hs, hc⟩
  · exact .inl h
  · exact .inr ⟨b, off, cap, sp, hv, hB, hs, fun i hi => by
      have e := hc i hi
      have hlt := block_lt_of_cell e
      rw [hb.cell (p := ⟨b, off + i, none⟩) (Nat.lt_of_lt_of_le hlt hC)]
      exact e⟩

/-- A store into a block below B turns nothing of it. -/
theorem Bts.setCell {B : Nat} {w : World} {v : Value} {l : List UInt8} (h : Bts B w v l) {p : Addr} (hp : p.block < B) (u : Value) : Bts B (w.setCell p u) v l := by
  rcases h with h | ⟨b, off, cap, sp, hv, hB, hs, hc⟩
  · exact .inl h
  · exact .inr ⟨b, off, cap, sp, hv, hB, hs, fun i hi => by
      rw [World.cell?_of_block (w := w) (a := ⟨b, off + i, none⟩) (Below.heap_setCell _ _ _ _ (show b ≠ p.block by omega))]
      exact hc i hi⟩

theorem Bts.weaken {B B' : Nat} {w : World} {v : Value} {l : List UInt8} (h : Bts B w v l) (hB : B' ≤ B) : Bts B' w v l := by
  rcases h with h | ⟨b, off, cap, sp, hv, hb, hs, hc⟩
  · exact .inl h
  · exact .inr ⟨b, off, cap, sp, hv, by omega, hs, hc⟩

/-- Its outer form. -/
theorem Bts.slice {B : Nat} {w : World} {v : Value} {l : List UInt8} (h : Bts B w v l) : ∃ a cap, v = .slice a l.length cap := by
  rcases h with ⟨rfl, rfl⟩ | ⟨b, off, cap, sp, rfl, _⟩
  · exact ⟨_, _, rfl⟩
  · exact ⟨_, _, rfl⟩

/-- Where there is an element. -/
theorem Bts.full {B : Nat} {w : World} {v : Value} {l : List UInt8} (h : Bts B w v l) (hl : 0 < l.length) :
    ∃ b off cap, v = .slice (some ⟨b, off, none⟩) l.length cap ∧ B ≤ b ∧ ∀ i (h : i < l.length), w.cell? ⟨b, off + i, none⟩ = some (.int .u8 (l[i].toNat : Int)) := by
  rcases h with ⟨rfl, rfl⟩ | ⟨b, off, cap, sp, rfl, hB, hs, hc⟩
  · simp at hl
  · have := hs (fun e => by rw [e] at hl; simp at hl)
    subst this
    exact ⟨b, off, cap, rfl, hB, hc⟩

/-! ### zzB1BytesEqual (13) -/
set_option maxHeartbeats 400000 in
theorem equal_any {B C : Nat} {va vb : Value} {la lb : List UInt8} (w : World) (ha : Bts B w va la) (hb : Bts C w vb lb) (hla : la.length ≤ 1048576) (hlb : lb.length ≤ 1048576) :
    Calls Try.prog 13 #[va, vb] w fun e w' => e = .returned (.bool (la == lb)) ∧ ∃ n, w' = w.drewN n := by
  by_cases hne : la.length = lb.length
  · by_cases h0 : la.length = 0
    · obtain ⟨a, ca, rfl⟩ := ha.slice
      obtain ⟨b, cb, rfl⟩ := hb.slice
      have e0 := List.length_eq_zero_iff.1 h0
      have e1 := List.length_eq_zero_iff.1 (hne ▸ h0)
      subst e0 e1
      clear ha hb hne h0
      go_enter Try.func13, Try.ntmps13
      go_wp2
      go_loop [5] (fun i => i = .int .i64 0) (fun _ => 0)
      case atStart => rfl
      case round =>
        subst hrel
        go_wp2
        go_ret
        exact ⟨rfl, 0, rfl⟩
    · obtain ⟨ab, ao, ac, rfl, _, hca⟩ := ha.full (by omega)
      obtain ⟨bb, bo, bc, rfl, _, hcb⟩ := hb.full (by omega)
      have hn : Hid (la.length = lb.length) := hne
      have hlen : ((la.length : Int) != (lb.length : Int)) = false := by rw [hne]; simp
      have hle1 : la.length ≤ lb.length := by omega
      have hle2 : lb.length ≤ la.length := by omega
      clear hne h0 ha hb
      go_enter Try.func13, Try.ntmps13
      go_wp2
      go_loopw [5] (fun i wr => ∃ k n : Nat, k ≤ la.length ∧ i = .int .i64 k ∧ wr = w.drewN n ∧ Hid (∀ j (h1 : j < la.length) (h2 : j < lb.length), j < k → la[j] = lb[j])) (fun i _ => la.length - (intOf i).toNat)
      case atStart => exact ⟨0, 0, by omega, rfl, rfl, fun _ _ _ h => absurd h (by omega)⟩
      case round =>
        obtain ⟨k, n, hk, rfl, rfl, hall⟩ := hrel
        by_cases hlt : k < la.length
        · have hlt2 : k < lb.length := by omega
          have c1 := hca k hlt
          have c2 := hcb k hlt2
          by_cases he : la[k] = lb[k]
          · have hq : ((la[k].toNat : Int) != (lb[k].toNat : Int)) = false := by rw [he]; simp
            have HE : Hid (la[k] = lb[k]) := he
            clear he
            go_wp2
            go_quiet (fail)
            go_wp2
            go_roundw
            case rel =>
              refine ⟨k + 1, _, by omega, by go_num, rfl, fun j h1 h2 hj => ?_⟩
              by_cases e : j = k
              · subst e; exact HE.out
              · exact hall.out j h1 h2 (by omega)
            case measure => simp [intOf]; omega
          · have hq : ((la[k].toNat : Int) != (lb[k].toNat : Int)) = true := by
              rw [bne_iff_ne]; intro h; exact he (UInt8.toNat_inj.1 (by omega))
            have hf : (la == lb) = false := beq_eq_false_iff_ne.2 (fun e => he (by subst e; rfl))
            have HF : Hid ((la == lb) = false) := hf
            clear he hf
            go_wp2
            go_quiet (fail)
            go_wp2
            go_ret
            exact ⟨ret_bool HF.out.symm, _, World.drewN_drewN _ _ _⟩
        · have hf : (la == lb) = true := by
            rw [beq_iff_eq]
            exact List.ext_getElem hn.out (fun j h1 h2 => hall.out j h1 h2 (by omega))
          have HF : Hid ((la == lb) = true) := hf
          clear hf
          go_wp2
          go_ret
          exact ⟨ret_bool HF.out.symm, _, rfl⟩
  · obtain ⟨a, ca, rfl⟩ := ha.slice
    obtain ⟨b, cb, rfl⟩ := hb.slice
    have hf : (la == lb) = false := beq_eq_false_iff_ne.2 (fun e => hne (by rw [e]))
    have ht : ((la.length : Int) != (lb.length : Int)) = true := by rw [bne_iff_ne]; omega
    rw [hf]
    clear hne
    go_enter Try.func13, Try.ntmps13
    go_wp2
    go_ret
    exact ⟨rfl, 0, rfl⟩
end Go.Proofs.Qxb6605465a
