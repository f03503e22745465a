import Derived.Test.Qxb6605465aClone
namespace Go.Proofs.Qxb6605465a
open Go.RowKit

theorem Try.info45 : (Try.prog.info? 45).map (fun i => (i.zero, i.size, i.bytes)) = some (some (.agg #[.int .u8 0, .slice none 0 0, .string ⟨#[]⟩, .int .u8 0, .int .u8 0, .pointer none]), 6, 64) := by kernel_rfl

/-- Cell r of a zero Constant. -/
def zc (r : Nat) : Value := match r with | 0 => .int .u8 0 | 1 => .slice none 0 0 | 2 => .string ⟨#[]⟩ | 3 => .int .u8 0 | 4 => .int .u8 0 | _ => .pointer none

/-- Cell j of the pool after k rounds. -/
def pcell (V : Nat → Value) (k j : Nat) : Value := if j / 6 < k then (if j % 6 = 0 then .int .u8 1 else if j % 6 = 1 then V (j / 6) else zc (j % 6)) else zc (j % 6)

theorem zc_get (i : Nat) : (#[Value.int .u8 0, .slice none 0 0, .string ⟨#[]⟩, .int .u8 0, .int .u8 0, .pointer none] : Array Value)[i % 6]! = zc (i % 6) := by
  have h : i % 6 < 6 := Nat.mod_lt _ (by decide)
  generalize i % 6 = r at *
  match r, h with
  | 0, _ => rfl
  | 1, _ => rfl
  | 2, _ => rfl
  | 3, _ => rfl
  | 4, _ => rfl
  | 5, _ => rfl

theorem run_make_pool (n : Nat) (hn : n ≤ 1048576) (w : World) :
    (Instr.makeSlice 32 (.int .i64 (n : Int)) (.int .i64 (n : Int))).run Try.prog w = .ok (.slice (some ⟨w.heap.size, 0, none⟩) n n) (w.alloc (.cells (madeCells #[.int .u8 0, .slice none 0 0, .string ⟨#[]⟩, .int .u8 0, .int .u8 0, .pointer none] (n * 6)) 45)) := by
  obtain ⟨i, hi, hz, hs, hb⟩ := info_parts Try.info45
  have h := run_make (P := Try.prog) w 32 45 i _ Try.underlying32 hi hz .i64 .i64 n n (by omega) (by omega) (by rw [hb]; omega) (by omega)
  rw [hs] at h
  simp only [Int.toNat_natCast] at h
  exact h

theorem pool_made (w : World) (V : Nat → Value) (n : Nat) : (w.alloc (.cells (madeCells #[.int .u8 0, .slice none 0 0, .string ⟨#[]⟩, .int .u8 0, .int .u8 0, .pointer none] (n * 6)) 45)).rowIs w.heap.size 45 (n * 6) (pcell V 0) := by
  refine ⟨_, Deep.blk_alloc_new _ _, size_madeCells _ _, fun i hi => ?_⟩
  simp only [madeCells, pcell, Nat.not_lt_zero, if_false]
  rw [Array.getElem?_map, Array.getElem?_range, if_pos hi]
  exact congrArg some (zc_get i)

theorem pool_step (V : Nat → Value) (k j : Nat) : (if j = k * 6 + 1 then V k else if j = k * 6 then .int .u8 1 else pcell V k j) = pcell V (k + 1) j := by
  unfold pcell
  by_cases h1 : j = k * 6 + 1
  · subst h1
    have e1 : (k * 6 + 1) / 6 = k := by omega
    have e2 : (k * 6 + 1) % 6 = 1 := by omega
    rw [e1, e2]; simp
  · by_cases h0 : j = k * 6
    · subst h0
      have e1 : (k * 6) / 6 = k := by omega
      have e2 : (k * 6) % 6 = 0 := by omega
      rw [e1, e2]; simp
    · rw [if_neg h1, if_neg h0]
      by_cases h2 : j / 6 < k
      · have h3 : j / 6 < k + 1 := by omega
        simp only [h2, h3, if_true]
      · rw [if_neg h2]
        by_cases h3 : j / 6 < k + 1
        · rw [if_pos h3, if_neg (by omega), if_neg (by omega)]
        · rw [if_neg h3]

set_option maxHeartbeats 400000 in
theorem pool_any (w : World) (av : Option Addr) (gi n cap : Nat) (V : Nat → Value) (hs : 0 < n → av = some ⟨gi, 0, none⟩) (hc : ∀ i, i < n → w.cell? ⟨gi, i, none⟩ = some (V i))
    (hV : ∀ i, i < n → ∃ a l c, V i = .slice a l c) (hn : n ≤ 1048576) :
    Calls Try.prog 10 #[.slice av n cap] w fun e w' => e = .returned (.slice (some ⟨w.heap.size, 0, none⟩) n n) ∧ w'.rowIs w.heap.size 45 (n * 6) (pcell V n) ∧ Below w.heap.size w w' ∧ w'.heap.size = w.heap.size + 1 := by
  have hmk := run_make_pool n hn
  go_enter Try.func10, Try.ntmps10
  go_wp2
  go_loopw [4] (fun i wr => ∃ k : Nat, k ≤ n ∧ i = .int .i64 k ∧ wr.rowIs w.heap.size 45 (n * 6) (pcell V k) ∧ Below w.heap.size w wr ∧ wr.heap.size = w.heap.size + 1) (fun i _ => n - (intOf i).toNat)
  case atStart => exact ⟨0, by omega, rfl, pool_made w V n, (Below.refl _ _).alloc (Nat.le_refl _) _, by simp⟩
  case round =>
    obtain ⟨k, hk, rfl, hrow, hbel, hsz⟩ := hrel
    by_cases hlt : k < n
    · have ha := hs (by omega)
      subst ha
      have hck := hc k hlt
      have hbl : gi < w.heap.size := block_lt_of_cell hck
      obtain ⟨a, l, c, hv⟩ := hV k hlt
      rw [hv] at hck
      have hrd : wr.cell? ⟨gi, k, none⟩ = some (.slice a l c) := (hbel.cell (p := ⟨gi, k, none⟩) hbl).trans hck
      have hne : ¬ gi = w.heap.size := by omega
      have hne' : ¬ w.heap.size = gi := by omega
      have h0 := hrow.cell (i := k * 6) (by omega)
      have h1 := hrow.cell (i := k * 6 + 1) (by omega)
      have f0 := hrow.frozen (k * 6)
      have f1 := hrow.frozen (k * 6 + 1)
      have hrow' := ((hrow.set (k * 6) (.int .u8 1)).set (k * 6 + 1) (.slice a l c)).congr (g := pcell V (k + 1)) (fun j _ => by rw [← pool_step V k j, hv])
      have hbel' := (hbel.setCell (p := ⟨w.heap.size, k * 6, none⟩) (Nat.le_refl _) (.int .u8 1)).setCell (p := ⟨w.heap.size, k * 6 + 1, none⟩) (Nat.le_refl _) (.slice a l c)
      have H1 : Hid _ := hrow'
      have H2 : Hid _ := hbel'
      clear hmk hs hc hV hrow hrow' hbel hbel' hck hv
      go_wp2
      go_roundw
      case rel => exact ⟨k + 1, by omega, by go_num, H1.out, H2.out, by simpa [World.setCell] using hsz⟩
      case measure => simp [intOf]; omega
    · obtain rfl : k = n := by omega
      go_wp2
      go_ret
      exact ⟨rfl, hrow, hbel, hsz⟩
end Go.Proofs.Qxb6605465a
