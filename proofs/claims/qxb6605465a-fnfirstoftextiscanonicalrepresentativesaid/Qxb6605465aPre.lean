import Derived.Test.Qxb6605465aAsk
namespace Go.Proofs.Qxb6605465a
open Go.RowKit

/-- A slice of slices of bytes that came in: nil, or a row of cells, cell i the slice V i, which reads as T i. -/
structure Rows2 (w : World) (av : Option Addr) (N cap : Nat) (V : Nat → Value) (T : Nat → List UInt8) : Prop where
  nil : av = none → N = 0 ∧ cap = 0
  row : 0 < N → ∃ b off, av = some ⟨b, off, none⟩ ∧ ∀ i, i < N → w.cell? ⟨b, off + i, none⟩ = some (V i)
  each : ∀ i, i < N → Bts 0 w (V i) (T i)
  len : N ≤ 9223372036854775807
  lens : ∀ i, i < N → (T i).length ≤ 9223372036854775807

/-- A slice of uint16 that came in. -/
structure Row16 (w : World) (av : Option Addr) (M cap : Nat) (S : Nat → Nat) : Prop where
  nil : av = none → M = 0 ∧ cap = 0
  row : 0 < M → ∃ b off, av = some ⟨b, off, none⟩ ∧ ∀ i, i < M → w.cell? ⟨b, off + i, none⟩ = some (.int .u16 (S i : Int))
  fits : ∀ i, i < M → S i ≤ 65535
  len : M ≤ 9223372036854775807

set_option maxHeartbeats 400000 in
theorem new_any (w : World) (a : Option Addr) (n c : Nat) :
    Calls Try.prog 11 #[.slice a n c] w fun e w' => e = .returned (.pointer (some ⟨w.heap.size, 0, none⟩)) ∧ w.alloc (.cells #[.slice a n c, .map none, .map none] 49) = w' := by
  go_enter Try.func11, Try.ntmps11
  go_wp2
  go_ret
  exact ⟨rfl, rfl⟩

/-- A bool comes back; where it is true no text is longer than 2^20. -/
def IsBool (N : Nat) (T : Nat → List UInt8) (e : Ending) : Prop := ∃ b, e = .returned (.bool b) ∧ (b = true → ∀ i, i < N → (T i).length ≤ 1048576)

/-! ### the bound on the total length (7; 14 is its twin) -/
set_option maxHeartbeats 400000 in
theorem zz7 (w : World) (av sv : Option Addr) (N cap M scap : Nat) (V : Nat → Value) (T : Nat → List UInt8) (R : Rows2 w av N cap V T) (hM : M ≤ 9223372036854775807) :
    Calls Try.prog 7 #[.slice av N cap, .slice sv M scap] w fun e w' => IsBool N T e ∧ w = w' := by
  have hlen := R.len
  by_cases hN : 1048576 < N
  · go_enter Try.func7, Try.ntmps7
    go_wp2
    go_ret
    exact ⟨⟨_, rfl, fun h => by cases h⟩, rfl⟩
  go_enter Try.func7, Try.ntmps7
  go_wp2
  go_loop [5, 6] (fun z i => ∃ (k : Nat) (y : Int), k ≤ N ∧ i = .int .i64 k ∧ z = .int .i64 y ∧ 0 ≤ y ∧ y ≤ 1048576 ∧ Hid (∀ j, j < k → (T j).length ≤ 1048576)) (fun _ i => N - (intOf i).toNat)
  case atStart => exact ⟨0, N, by omega, rfl, rfl, by omega, by omega, fun j h => absurd h (by omega)⟩
  case round =>
    obtain ⟨k, y, hk, rfl, rfl, hy0, hy1, hall⟩ := hrel
    by_cases hlt : k < N
    · obtain ⟨b, off, rfl, hc⟩ := R.row (by omega)
      have hck := hc k hlt
      obtain ⟨a, c, hv⟩ := (R.each k hlt).slice
      have hl := R.lens k hlt
      rw [hv] at hck
      clear hc hv
      by_cases h1 : 1048576 < (T k).length
      · go_wp2
        go_ret
        exact ⟨⟨_, rfl, fun h => by cases h⟩, rfl⟩
      · by_cases h2 : 1048576 < y + (T k).length
        · go_wp2
          go_ret
          exact ⟨⟨_, rfl, fun h => by cases h⟩, rfl⟩
        · go_wp2
          go_round
          case rel =>
            refine ⟨k + 1, y + (T k).length, by omega, by go_num, rfl, by omega, by omega, fun j hj => ?_⟩
            by_cases e : j = k
            · subst e; omega
            · exact hall.out j (by omega)
          case measure => simp [intOf]; omega
    · by_cases h1 : 1048576 < M
      · go_wp2
        go_ret
        exact ⟨⟨_, rfl, fun h => by cases h⟩, rfl⟩
      · by_cases h2 : 1048576 < y + M
        · go_wp2
          go_ret
          exact ⟨⟨_, rfl, fun h => by cases h⟩, rfl⟩
        · go_wp2
          go_ret
          exact ⟨⟨_, rfl, fun _ i hi => hall.out i (by omega)⟩, rfl⟩

set_option maxHeartbeats 400000 in
theorem zz14 (w : World) (av sv : Option Addr) (N cap M scap : Nat) (V : Nat → Value) (T : Nat → List UInt8) (R : Rows2 w av N cap V T) (hM : M ≤ 9223372036854775807) :
    Calls Try.prog 14 #[.slice av N cap, .slice sv M scap] w fun e w' => IsBool N T e ∧ w = w' := by
  have hlen := R.len
  by_cases hN : 1048576 < N
  · go_enter Try.func14, Try.ntmps14
    go_wp2
    go_ret
    exact ⟨⟨_, rfl, fun h => by cases h⟩, rfl⟩
  go_enter Try.func14, Try.ntmps14
  go_wp2
  go_loop [5, 6] (fun z i => ∃ (k : Nat) (y : Int), k ≤ N ∧ i = .int .i64 k ∧ z = .int .i64 y ∧ 0 ≤ y ∧ y ≤ 1048576 ∧ Hid (∀ j, j < k → (T j).length ≤ 1048576)) (fun _ i => N - (intOf i).toNat)
  case atStart => exact ⟨0, N, by omega, rfl, rfl, by omega, by omega, fun j h => absurd h (by omega)⟩
  case round =>
    obtain ⟨k, y, hk, rfl, rfl, hy0, hy1, hall⟩ := hrel
    by_cases hlt : k < N
    · obtain ⟨b, off, rfl, hc⟩ := R.row (by omega)
      have hck := hc k hlt
      obtain ⟨a, c, hv⟩ := (R.each k hlt).slice
      have hl := R.lens k hlt
      rw [hv] at hck
      clear hc hv
      by_cases h1 : 1048576 < (T k).length
      · go_wp2
        go_ret
        exact ⟨⟨_, rfl, fun h => by cases h⟩, rfl⟩
      · by_cases h2 : 1048576 < y + (T k).length
        · go_wp2
          go_ret
          exact ⟨⟨_, rfl, fun h => by cases h⟩, rfl⟩
        · go_wp2
          go_round
          case rel =>
            refine ⟨k + 1, y + (T k).length, by omega, by go_num, rfl, by omega, by omega, fun j hj => ?_⟩
            by_cases e : j = k
            · subst e; omega
            · exact hall.out j (by omega)
          case measure => simp [intOf]; omega
    · by_cases h1 : 1048576 < M
      · go_wp2
        go_ret
        exact ⟨⟨_, rfl, fun h => by cases h⟩, rfl⟩
      · by_cases h2 : 1048576 < y + M
        · go_wp2
          go_ret
          exact ⟨⟨_, rfl, fun h => by cases h⟩, rfl⟩
        · go_wp2
          go_ret
          exact ⟨⟨_, rfl, fun _ i hi => hall.out i (by omega)⟩, rfl⟩

/-! ### the clones, nil or not -/
set_option maxHeartbeats 400000 in
theorem infos_any (w : World) (av : Option Addr) (N cap : Nat) (V : Nat → Value) (T : Nat → List UInt8) (R : Rows2 w av N cap V T) (hT : ∀ i, i < N → (T i).length ≤ 1048576) (hn : N ≤ 1048576) :
    Calls Try.prog 8 #[.slice av N cap] w fun e w' => ∃ (av' : Option Addr) (cap' g : Nat) (V' : Nat → Value), e = .returned (.slice av' N cap') ∧ (0 < N → av' = some ⟨g, 0, none⟩) ∧ (∀ i, i < N → w'.cell? ⟨g, i, none⟩ = some (V' i)) ∧ (∀ i, i < N → Bts 0 w' (V' i) (T i)) ∧ Below w.heap.size w w' := by
  cases av with
  | none =>
    obtain ⟨rfl, rfl⟩ := R.nil rfl
    have hnil := fun wx => Lib.run_eql_slice_nil (P := Try.prog) wx 25 28 none 0 0 0 0 Try.underlying25
    go_enter Try.func8, Try.ntmps8
    go_wp2
    go_ret
    exact ⟨none, 0, 0, V, rfl, fun h => absurd h (by omega), fun i h => absurd h (by omega), fun i h => absurd h (by omega), Below.refl _ _⟩
  | some a =>
    by_cases h0 : 0 < N
    · obtain ⟨b, off, e, hc⟩ := R.row h0
      injection e with e
      refine (infos_some w a b off N cap V T (fun _ => e) hc R.each hT hn).mono ?_
      rintro e w' ⟨rfl, ⟨V', hrow, hB⟩, hbel⟩
      exact ⟨_, _, w.heap.size, V', rfl, fun _ => rfl, fun i hi => hrow.cell hi, fun i hi => (hB i hi).weaken (Nat.zero_le _), hbel⟩
    · refine (infos_some w a 0 0 N cap V T (fun h => absurd h h0) (fun i hi => by omega) R.each hT hn).mono ?_
      rintro e w' ⟨rfl, ⟨V', hrow, hB⟩, hbel⟩
      exact ⟨_, _, w.heap.size, V', rfl, fun _ => rfl, fun i hi => hrow.cell hi, fun i hi => (hB i hi).weaken (Nat.zero_le _), hbel⟩

set_option maxHeartbeats 400000 in
theorem script_any (w : World) (sv : Option Addr) (M cap : Nat) (S : Nat → Nat) (R : Row16 w sv M cap S) (hn : M ≤ 1048576) :
    Calls Try.prog 9 #[.slice sv M cap] w fun e w' => ∃ (sv' : Option Addr) (cap' g : Nat), e = .returned (.slice sv' M cap') ∧ (0 < M → sv' = some ⟨g, 0, none⟩) ∧ (∀ i, i < M → w'.cell? ⟨g, i, none⟩ = some (.int .u16 (S i : Int))) ∧ Below w.heap.size w w' := by
  cases sv with
  | none =>
    obtain ⟨rfl, rfl⟩ := R.nil rfl
    have hnil := fun wx => Lib.run_eql_slice_nil (P := Try.prog) wx 26 22 none 0 0 0 0 Try.underlying26
    go_enter Try.func9, Try.ntmps9
    go_wp2
    go_ret
    exact ⟨none, 0, 0, rfl, fun h => absurd h (by omega), fun i h => absurd h (by omega), Below.refl _ _⟩
  | some a =>
    by_cases h0 : 0 < M
    · obtain ⟨b, off, e, hc⟩ := R.row h0
      injection e with e
      refine (clone16_some w a b off M cap (fun i => (S i : Int)) (fun _ => e) hc hn).mono ?_
      rintro e w' ⟨rfl, hrow, hbel⟩
      exact ⟨_, _, w.heap.size, rfl, fun _ => rfl, fun i hi => hrow.cell hi, hbel⟩
    · refine (clone16_some w a 0 0 M cap (fun i => (S i : Int)) (fun h => absurd h h0) (fun i hi => by omega) hn).mono ?_
      rintro e w' ⟨rfl, hrow, hbel⟩
      exact ⟨_, _, w.heap.size, rfl, fun _ => rfl, fun i hi => hrow.cell hi, hbel⟩

/-! ### the rest of the plain side -/

/-- The first t asks of the script. -/
def asks (S : Nat → Nat) (t : Nat) : List Nat := (List.range t).map S

theorem asks_succ (S : Nat → Nat) (t : Nat) : asks S (t + 1) = asks S t ++ [S t] := by
  unfold asks
  rw [List.range_succ, List.map_append]
  rfl

theorem asks_length (S : Nat → Nat) (t : Nat) : (asks S t).length = t := by simp [asks]

/-- 'firsts = append(firsts, x)' where there is room. -/
theorem append_one (w : World) (g n M : Nat) (f : Nat → Value) (hrow : w.rowIs g 22 M f) (hn : n < M) (a : Addr) (x : Int) (ha : w.cell? a = some (.int .u16 x)) (ty : TypeId) :
    ∃ W', (Builtin.append_ #[26, 26] ty #[.slice (some ⟨g, 0, none⟩) n M, .slice (some a) 1 1]).run Try.prog w = .ok (.slice (some ⟨g, 0, none⟩) (n + 1) M) W' ∧
      W'.rowIs g 22 M (fun j => if j = n then .int .u16 x else f j) ∧ w.grownBy W' (some g) := by
  obtain ⟨i, hi, _, hs, _⟩ := info_parts Try.info22
  obtain ⟨cur, hg, hsz, hc⟩ := hrow
  have h := run_append_room (P := Try.prog) w 26 ty 22 i Try.underlying26 hi g n M cur hg a 1 1 [.int .u16 x] (by rw [hs]; rfl) (fun j u hj => by
      match j, hj with
      | 0, hj => simp at hj; subst hj; simpa [Addr.add] using ha
      | j + 1, hj => simp at hj) (fun u hu => by simp at hu; subst hu; rfl) (by omega) (by rw [hs]; simp; omega)
  rw [hs] at h
  refine ⟨_, h, ⟨_, setRow_heap w g cur _ 22 (0, 0) hg, ?_, fun j hj => ?_⟩, ⟨rfl, rfl, rfl, by simp, fun k _ hk => setRow_other w g k _ (fun e => hk (by rw [e]))⟩⟩
  · simp; omega
  · have hcj := hc j hj
    have hcl : cur.toList[j]? = some (f j) := by rw [Array.getElem?_toList]; exact hcj
    simp only [Nat.mul_one, List.length_singleton, List.getElem?_toArray]
    by_cases e : j = n
    · subst e
      rw [List.append_assoc, List.getElem?_append_right (by rw [List.length_take]; exact Nat.min_le_left _ _)]
      simp
      rw [Nat.min_eq_left (by omega)]
      simp
    · rw [if_neg e]
      by_cases h2 : j < n
      · rw [List.append_assoc, List.getElem?_append_left (by simp; omega), List.getElem?_take_of_lt h2]
        exact hcl
      · rw [List.getElem?_append_right (by simp; omega), List.getElem?_drop]
        simp only [List.length_append, List.length_take, Array.length_toList, List.length_singleton]
        rw [← hcl]
        congr 1
        omega

/-- 'make([]uint16, 0, M)'. -/
theorem run_make_cap (M : Nat) (hM : M ≤ 1048576) (w : World) :
    (Instr.makeSlice 26 (.int .i64 0) (.int .i64 (M : Int))).run Try.prog w = .ok (.slice (some ⟨w.heap.size, 0, none⟩) 0 M) (w.alloc (.cells (madeCells #[.int .u16 0] M) 22)) := by
  obtain ⟨i, hi, hz, hs, hb⟩ := info_parts Try.info22
  have h := run_make (P := Try.prog) w 26 22 i _ Try.underlying26 hi hz .i64 .i64 0 M (by omega) (by omega) (by rw [hb]; omega) (by omega)
  rw [hs] at h
  simp only [Int.toNat_natCast, Nat.mul_one] at h
  exact h
end Go.Proofs.Qxb6605465a
