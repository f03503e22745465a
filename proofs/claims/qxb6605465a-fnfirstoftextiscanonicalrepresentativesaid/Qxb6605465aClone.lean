import Derived.Test.Qxb6605465aMem
namespace Go.Proofs.Qxb6605465a
open Go.RowKit

theorem Try.info5 : (Try.prog.info? 5).map (fun i => (i.zero, i.size, i.bytes)) = some (some (.int .u8 0), 1, 1) := by kernel_rfl
theorem Try.info22 : (Try.prog.info? 22).map (fun i => (i.zero, i.size, i.bytes)) = some (some (.int .u16 0), 1, 2) := by kernel_rfl
theorem Try.info28 : (Try.prog.info? 28).map (fun i => (i.zero, i.size, i.bytes)) = some (some (.slice none 0 0), 1, 24) := by kernel_rfl

/-- A number of a list by its index, 0 beyond. -/
def at8 (l : List UInt8) (j : Nat) : Int := ((l.getD j 0).toNat : Int)

theorem at8_lt (l : List UInt8) (j : Nat) (h : j < l.length) : at8 l j = (l[j].toNat : Int) := by
  simp [at8, h]

/-- What the clone holds after k rounds. -/
def upTo (f : Nat → Value) (z : Value) (k j : Nat) : Value := if j < k then f j else z

theorem upTo_step (f : Nat → Value) (z : Value) (k j : Nat) : (if j = k then f k else upTo f z k j) = upTo f z (k + 1) j := by
  unfold upTo
  by_cases h : j = k
  · subst h; simp
  · by_cases h2 : j < k
    · have : j < k + 1 := by omega
      simp [h, h2, this]
    · have : ¬ j < k + 1 := by omega
      simp [h, h2, this]

set_option maxHeartbeats 400000 in
theorem clone_some (w : World) (a : Addr) (b off n cap : Nat) (f : Nat → Int) (hs : 0 < n → a = ⟨b, off, none⟩) (hc : ∀ i, i < n → w.cell? ⟨b, off + i, none⟩ = some (.int .u8 (f i))) (hn : n ≤ 1048576) :
    Calls Try.prog 16 #[.slice (some a) n cap] w fun e w' => e = .returned (.slice (some ⟨w.heap.size, 0, none⟩) n n) ∧ w'.rowIs w.heap.size 5 n (fun j => .int .u8 (f j)) ∧ Below w.heap.size w w' := by
  have hnil := fun wx => Lib.run_eql_slice_nil (P := Try.prog) wx 28 5 (some a) n cap 0 0 Try.underlying28
  have hmk := run_make_row' (P := Try.prog) 28 5 (.int .u8 0) 1 Try.underlying28 Try.info5 rfl .i64 .i64 n (by omega) (by omega)
  go_enter Try.func16, Try.ntmps16
  go_wp2
  go_loopw [4] (fun i wr => ∃ k : Nat, k ≤ n ∧ i = .int .i64 k ∧ wr.rowIs w.heap.size 5 n (upTo (fun j => .int .u8 (f j)) (.int .u8 0) k) ∧ Below w.heap.size w wr) (fun i _ => n - (intOf i).toNat)
  case atStart =>
    exact ⟨0, by omega, rfl, (World.rowIs_made w (.int .u8 0) n 5).congr (fun i _ => by simp [upTo]), (Below.refl _ _).alloc (Nat.le_refl _) _⟩
  case round =>
    obtain ⟨k, hk, rfl, hrow, hbel⟩ := hrel
    by_cases hlt : k < n
    · have ha := hs (by omega)
      subst ha
      have hck := hc k hlt
      have hbl := block_lt_of_cell hck
      have hrd : wr.cell? ⟨b, off + k, none⟩ = some (.int .u8 (f k)) := (hbel.cell (p := ⟨b, off + k, none⟩) hbl).trans hck
      have hold := hrow.cell hlt
      have hfz := hrow.frozen k
      have hrow' := (hrow.set k (.int .u8 (f k))).congr (fun j _ => upTo_step _ _ k j)
      have hbel' := hbel.setCell (p := ⟨w.heap.size, k, none⟩) (Nat.le_refl _) (.int .u8 (f k))
      have H1 : Hid _ := hrow'
      have H2 : Hid _ := hbel'
      clear hrow hrow' hbel hbel' hck hnil hmk hs hc
      go_wp2
      go_roundw
      case rel => exact ⟨k + 1, by omega, by go_num, H1.out, H2.out⟩
      case measure => simp [intOf]; omega
    · obtain rfl : k = n := by omega
      go_wp2
      go_ret
      exact ⟨rfl, hrow.congr (fun i hi => by simp [upTo, hi]), hbel⟩

/-- zzB1CloneBytes (16). -/
theorem clone_any {B : Nat} {w : World} {v : Value} {l : List UInt8} (h : Bts B w v l) (hl : l.length ≤ 1048576) :
    Calls Try.prog 16 #[v] w fun e w' => ∃ a cap, e = .returned (.slice a l.length cap) ∧ Bts w.heap.size w' (.slice a l.length cap) l ∧ Below w.heap.size w w' := by
  rcases h with ⟨rfl, rfl⟩ | ⟨b, off, cap, sp, rfl, hB, hs, hc⟩
  · have hnil := fun wx => Lib.run_eql_slice_nil (P := Try.prog) wx 28 5 none 0 0 0 0 Try.underlying28
    go_enter Try.func16, Try.ntmps16
    go_wp2
    go_ret
    exact ⟨none, 0, rfl, .inl ⟨rfl, rfl⟩, Below.refl _ _⟩
  · refine (clone_some w ⟨b, off, sp⟩ b off l.length cap (at8 l) (fun h => by rw [hs (fun e => by subst e; simp at h)]) (fun i hi => by rw [at8_lt l i hi]; exact hc i hi) hl).mono ?_
    rintro e w' ⟨rfl, hrow, hbel⟩
    refine ⟨_, _, rfl, .inr ⟨w.heap.size, 0, l.length, none, rfl, Nat.le_refl _, fun _ => rfl, fun i hi => ?_⟩, hbel⟩
    rw [Nat.zero_add, hrow.cell hi, at8_lt l i hi]

/-! ### zzB1CloneU16 (9) -/
set_option maxHeartbeats 400000 in
theorem clone16_some (w : World) (a : Addr) (b off n cap : Nat) (f : Nat → Int) (hs : 0 < n → a = ⟨b, off, none⟩) (hc : ∀ i, i < n → w.cell? ⟨b, off + i, none⟩ = some (.int .u16 (f i))) (hn : n ≤ 1048576) :
    Calls Try.prog 9 #[.slice (some a) n cap] w fun e w' => e = .returned (.slice (some ⟨w.heap.size, 0, none⟩) n n) ∧ w'.rowIs w.heap.size 22 n (fun j => .int .u16 (f j)) ∧ Below w.heap.size w w' := by
  have hnil := fun wx => Lib.run_eql_slice_nil (P := Try.prog) wx 26 22 (some a) n cap 0 0 Try.underlying26
  have hmk := run_make_row' (P := Try.prog) 26 22 (.int .u16 0) 2 Try.underlying26 Try.info22 rfl .i64 .i64 n (by omega) (by omega)
  go_enter Try.func9, Try.ntmps9
  go_wp2
  go_loopw [4] (fun i wr => ∃ k : Nat, k ≤ n ∧ i = .int .i64 k ∧ wr.rowIs w.heap.size 22 n (upTo (fun j => .int .u16 (f j)) (.int .u16 0) k) ∧ Below w.heap.size w wr) (fun i _ => n - (intOf i).toNat)
  case atStart =>
    exact ⟨0, by omega, rfl, (World.rowIs_made w (.int .u16 0) n 22).congr (fun i _ => by simp [upTo]), (Below.refl _ _).alloc (Nat.le_refl _) _⟩
  case round =>
    obtain ⟨k, hk, rfl, hrow, hbel⟩ := hrel
    by_cases hlt : k < n
    · have ha := hs (by omega)
      subst ha
      have hck := hc k hlt
      have hbl := block_lt_of_cell hck
      have hrd : wr.cell? ⟨b, off + k, none⟩ = some (.int .u16 (f k)) := (hbel.cell (p := ⟨b, off + k, none⟩) hbl).trans hck
      have hold := hrow.cell hlt
      have hfz := hrow.frozen k
      have hrow' := (hrow.set k (.int .u16 (f k))).congr (fun j _ => upTo_step _ _ k j)
      have hbel' := hbel.setCell (p := ⟨w.heap.size, k, none⟩) (Nat.le_refl _) (.int .u16 (f k))
      have H1 : Hid _ := hrow'
      have H2 : Hid _ := hbel'
      clear hrow hrow' hbel hbel' hck hnil hmk hs hc
      go_wp2
      go_roundw
      case rel => exact ⟨k + 1, by omega, by go_num, H1.out, H2.out⟩
      case measure => simp [intOf]; omega
    · obtain rfl : k = n := by omega
      go_wp2
      go_ret
      exact ⟨rfl, hrow.congr (fun i hi => by simp [upTo, hi]), hbel⟩

/-! ### zzB1CloneInfos (8) -/
set_option maxHeartbeats 400000 in
theorem infos_some (w : World) (a : Addr) (b off n cap : Nat) (V : Nat → Value) (T : Nat → List UInt8) (hs : 0 < n → a = ⟨b, off, none⟩) (hc : ∀ i, i < n → w.cell? ⟨b, off + i, none⟩ = some (V i))
    (hB : ∀ i, i < n → Bts 0 w (V i) (T i)) (hT : ∀ i, i < n → (T i).length ≤ 1048576) (hn : n ≤ 1048576) :
    Calls Try.prog 8 #[.slice (some a) n cap] w fun e w' => e = .returned (.slice (some ⟨w.heap.size, 0, none⟩) n n) ∧ (∃ V', w'.rowIs w.heap.size 28 n V' ∧ ∀ i, i < n → Bts (w.heap.size + 1) w' (V' i) (T i)) ∧ Below w.heap.size w w' := by
  have hnil := fun wx => Lib.run_eql_slice_nil (P := Try.prog) wx 25 28 (some a) n cap 0 0 Try.underlying25
  have hmk := run_make_row' (P := Try.prog) 25 28 (.slice none 0 0) 24 Try.underlying25 Try.info28 rfl .i64 .i64 n (by omega) (by omega)
  go_enter Try.func8, Try.ntmps8
  go_wp2
  go_loopw [4] (fun i wr => ∃ (k : Nat) (V' : Nat → Value), k ≤ n ∧ i = .int .i64 k ∧ wr.rowIs w.heap.size 28 n (upTo V' (.slice none 0 0) k) ∧ (∀ j, j < k → Bts (w.heap.size + 1) wr (V' j) (T j)) ∧ Below w.heap.size w wr ∧ w.heap.size + 1 ≤ wr.heap.size) (fun i _ => n - (intOf i).toNat)
  case atStart =>
    exact ⟨0, fun _ => undef, by omega, rfl, (World.rowIs_made w (.slice none 0 0) n 28).congr (fun i _ => by simp [upTo]), fun j h => absurd h (by omega), (Below.refl _ _).alloc (Nat.le_refl _) _, by simp⟩
  case round =>
    obtain ⟨k, V', hk, rfl, hrow, hall, hbel, hsz⟩ := hrel
    by_cases hlt : k < n
    · have ha := hs (by omega)
      subst ha
      have hck := hc k hlt
      have hbl := block_lt_of_cell hck
      have hbk := (hB k hlt).mono (Nat.le_refl _) hbel
      obtain ⟨ak, ck, hv⟩ := hbk.slice
      rw [hv] at hck hbk
      have hrd : wr.cell? ⟨b, off + k, none⟩ = some (.slice ak (T k).length ck) := (hbel.cell (p := ⟨b, off + k, none⟩) hbl).trans hck
      have hTk := hT k hlt
      have hR : Hid (wr.rowIs w.heap.size 28 n (upTo V' (.slice none 0 0) k)) := hrow
      have hA : Hid (∀ j, j < k → Bts (w.heap.size + 1) wr (V' j) (T j)) := hall
      have hBe : Hid (Below w.heap.size w wr) := hbel
      clear hv hrow hall hbel hck hnil hmk hs hc hB hT
      go_wp2_with fail
      refine (clone_any hbk hTk).mono ?_
      rintro e w1 ⟨a1, c1, rfl, hb1, hbel1⟩
      have hrow1 := hR.out.of_block (w' := w1) (hbel1.block _ hR.out.lt)
      have hold := hrow1.cell hlt
      have hfz := hrow1.frozen k
      have H1 : Hid ((w1.setCell ⟨w.heap.size, k, none⟩ (.slice a1 (T k).length c1)).rowIs w.heap.size 28 n (upTo (fun j => if j = k then .slice a1 (T k).length c1 else V' j) (.slice none 0 0) (k + 1))) :=
        (hrow1.set k (.slice a1 (T k).length c1)).congr (fun j _ => by
          unfold upTo
          by_cases e : j = k
          · subst e; simp
          · by_cases h2 : j < k
            · simp [e, h2, show j < k + 1 by omega]
            · simp [e, h2, show ¬ j < k + 1 by omega])
      have H2 : Hid (∀ j, j < k + 1 → Bts (w.heap.size + 1) (w1.setCell ⟨w.heap.size, k, none⟩ (.slice a1 (T k).length c1)) (if j = k then .slice a1 (T k).length c1 else V' j) (T j)) := by
        intro j hj
        by_cases e : j = k
        · subst e
          rw [if_pos rfl]
          exact (hb1.weaken hsz).setCell (by simp) _
        · rw [if_neg e]
          exact ((hA.out j (by omega)).mono (Nat.le_refl _) hbel1).setCell (by simp) _
      have H3 : Hid (Below w.heap.size w (w1.setCell ⟨w.heap.size, k, none⟩ (.slice a1 (T k).length c1))) := (hBe.out.trans (hbel1.mono (by omega))).setCell (Nat.le_refl _) _
      have H4 : w.heap.size + 1 ≤ w1.heap.size := Nat.le_trans hsz hbel1.size
      clear hrow1 hb1 hbel1 hbk hrd
      go_wp2
      go_roundw
      case rel => exact ⟨k + 1, _, by omega, by go_num, H1.out, H2.out, H3.out, by simp [World.setCell]; omega⟩
      case measure => simp [intOf]; omega
    · obtain rfl : k = n := by omega
      go_wp2
      go_ret
      exact ⟨rfl, ⟨V', hrow.congr (fun i hi => by simp [upTo, hi]), hall⟩, hbel⟩
end Go.Proofs.Qxb6605465a
