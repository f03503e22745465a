import Derived.Test.Qxb6605465aPre
namespace Go.Proofs.Qxb6605465a
open Go.RowKit

theorem pcell_info (V : Nat → Value) (N k : Nat) (h : k < N) : pcell V N (k * 6 + 1) = V k := by
  unfold pcell
  have e1 : (k * 6 + 1) / 6 = k := by omega
  have e2 : (k * 6 + 1) % 6 = 1 := by omega
  rw [e1, e2]; simp [h]

theorem pcell_text (V : Nat → Value) (N k : Nat) (h : k < N) : pcell V N (k * 6 + 2) = .string ⟨#[]⟩ := by
  unfold pcell
  have e1 : (k * 6 + 2) / 6 = k := by omega
  have e2 : (k * 6 + 2) % 6 = 2 := by omega
  rw [e1, e2]; simp [h]; rfl

/-- All that stands still behind the clones, the pool and the finder. -/
structure Base (wP : World) (gp N M : Nat) (T : Nat → List UInt8) (S : Nat → Nat) (gi gs : Nat) (V : Nat → Value) : Prop where
  stat : Stat wP (gp + 1) gp N T
  info : ∀ i, i < N → wP.cell? ⟨gi, i, none⟩ = some (V i)
  texts : ∀ i, i < N → Bts 0 wP (V i) (T i)
  script : ∀ i, i < M → wP.cell? ⟨gs, i, none⟩ = some (.int .u16 (S i : Int))
  ins : ∀ i, i < M → S i < N

theorem base_mk {w2 wP : World} {N M gi gs : Nat} {T : Nat → List UInt8} {S : Nat → Nat} {V : Nat → Value} (hrow : wP.rowIs w2.heap.size 45 (N * 6) (pcell V N)) (hbel : Below w2.heap.size w2 wP) (hsz : wP.heap.size = w2.heap.size + 1)
    (hc : ∀ i, i < N → w2.cell? ⟨gi, i, none⟩ = some (V i)) (hB : ∀ i, i < N → Bts 0 w2 (V i) (T i)) (hs : ∀ i, i < M → w2.cell? ⟨gs, i, none⟩ = some (.int .u16 (S i : Int))) (hS : ∀ i, i < M → S i < N)
    (hT : ∀ i, i < N → (T i).length ≤ 1048576) (hN : N ≤ 65536) : Base wP w2.heap.size N M T S gi gs V := by
  have hBP : ∀ i, i < N → Bts 0 wP (V i) (T i) := fun i hi => (hB i hi).mono (Nat.le_refl _) hbel
  refine ⟨⟨hsz.symm, by omega, fun k hk => ?_, fun k hk => ?_, hT, hN⟩, fun i hi => (hbel.cell (p := ⟨gi, i, none⟩) (block_lt_of_cell (hc i hi))).trans (hc i hi), hBP, fun i hi => (hbel.cell (p := ⟨gs, i, none⟩) (block_lt_of_cell (hs i hi))).trans (hs i hi), hS⟩
  · obtain ⟨a, c, e⟩ := (hBP k hk).slice
    refine ⟨a, c, ?_, e ▸ hBP k hk⟩
    rw [hrow.cell (i := k * 6 + 1) (by omega), pcell_info V N k hk, e]
  · rw [hrow.cell (i := k * 6 + 2) (by omega), pcell_text V N k hk]

/-- The finder at its birth, a row laid behind it. -/
theorem born_FSt (wP : World) (gp N : Nat) (T : Nat → List UInt8) (h : wP.heap.size = gp + 1) (C : Array Value) (t : TypeId) :
    FSt wP (gp + 1) gp N T [] ((wP.alloc (.cells #[.slice (some ⟨gp, 0, none⟩) N N, .map none, .map none] 49)).alloc (.cells C t)) := by
  have hg : ((wP.alloc (.cells #[.slice (some ⟨gp, 0, none⟩) N N, .map none, .map none] 49)).alloc (.cells C t)).heap[gp + 1]? = some (.cells #[.slice (some ⟨gp, 0, none⟩) N N, .map none, .map none] 49) := by
    rw [Below.heap_alloc _ _ _ (by simp; omega), ← h]
    exact heap_alloc_new _ _
  have hcell : ∀ j, ((wP.alloc (.cells #[.slice (some ⟨gp, 0, none⟩) N N, .map none, .map none] 49)).alloc (.cells C t)).cell? ⟨gp + 1, j, none⟩ = (#[.slice (some ⟨gp, 0, none⟩) N N, .map none, .map none] : Array Value)[j]? := fun j => cell_of_row _ _ _ _ _ _ hg
  have hfz : ∀ j, ((wP.alloc (.cells #[.slice (some ⟨gp, 0, none⟩) N N, .map none, .map none] 49)).alloc (.cells C t)).frozen? ⟨gp + 1, j, none⟩ = false := fun j => frozen_of_row _ _ _ _ _ hg
  refine ⟨((Below.refl _ _).alloc (by omega) _).alloc (by simp; omega) _, by simp; omega, (hcell 0).trans rfl, fun j hj => by simp at hj, .inl ⟨rfl, (hcell 1).trans rfl, (hcell 2).trans rfl, hfz 1, hfz 2⟩⟩

/-- The kept firsts answer as the asks do. -/
def FL (T : Nat → List UInt8) (fl asked : List Nat) : Prop := ∀ l, fl.find? (fun j => T j == l) = asked.find? (fun j => T j == l)

theorem FL.snoc {T : Nat → List UInt8} {fl asked : List Nat} (h : FL T fl asked) (i : Nat) : FL T (fl ++ [i]) (asked ++ [i]) := fun l => by
  rw [List.find?_append, List.find?_append, h l]

theorem FL.seen {T : Nat → List UInt8} {fl asked : List Nat} (h : FL T fl asked) (i x : Nat) (hx : x ∈ fl) (ht : T x = T i) : FL T fl (asked ++ [i]) := fun l => by
  rw [List.find?_append, h l]
  cases e : asked.find? (fun j => T j == l) with
  | some y => rfl
  | none =>
    by_cases hl : T i = l
    · rw [← h l] at e
      have := List.find?_eq_none.1 e x hx
      rw [ht, hl] at this
      simp at this
    · simp [hl]

theorem find_at {T : Nat → List UInt8} (l : List UInt8) : ∀ (fl : List Nat) (q : Nat), q < fl.length → T (fl.getD q 0) = l → (∀ j, j < q → T (fl.getD j 0) ≠ l) → fl.find? (fun j => T j == l) = some (fl.getD q 0)
  | [], q, h, _, _ => by simp at h
  | a :: tl, 0, _, ht, _ => by
    simp only [List.getD_cons_zero] at ht ⊢
    rw [List.find?_cons_of_pos]
    simpa using ht
  | a :: tl, q + 1, h, ht, hn => by
    have h0 : T a ≠ l := by simpa using hn 0 (by omega)
    rw [List.find?_cons_of_neg (by simpa using h0)]
    simp only [List.getD_cons_succ] at ht ⊢
    exact find_at l tl q (by simpa using h) ht (fun j hj => by simpa using hn (j + 1) (by omega))

theorem find_no {T : Nat → List UInt8} (l : List UInt8) (fl : List Nat) (hn : ∀ j, j < fl.length → T (fl.getD j 0) ≠ l) : fl.find? (fun j => T j == l) = none := by
  rw [List.find?_eq_none]
  intro x hx
  obtain ⟨j, hj, rfl⟩ := List.getElem_of_mem hx
  have := hn j hj
  rw [List.getD_eq_getElem?_getD, List.getElem?_eq_getElem hj] at this
  simpa using this

theorem FL.hit {T : Nat → List UInt8} {fl asked : List Nat} (h : FL T fl asked) (i q : Nat) (hq : q < fl.length) (ht : T (fl.getD q 0) = T i) (hn : ∀ j, j < q → T (fl.getD j 0) ≠ T i) : firstOf T asked i = fl.getD q 0 := by
  unfold firstOf
  rw [← h (T i), find_at (T i) fl q hq ht hn]
  rfl

theorem FL.miss {T : Nat → List UInt8} {fl asked : List Nat} (h : FL T fl asked) (i : Nat) (hn : ∀ j, j < fl.length → T (fl.getD j 0) ≠ T i) : firstOf T asked i = i := by
  unfold firstOf
  rw [← h (T i), find_no (T i) fl hn]
  rfl

theorem getD_mem (fl : List Nat) (q : Nat) (h : q < fl.length) : fl.getD q 0 ∈ fl := by
  rw [List.getD_eq_getElem?_getD, List.getElem?_eq_getElem h]
  exact List.getElem_mem h

theorem getD_snoc (fl : List Nat) (x r : Nat) : (fl ++ [x]).getD r 0 = if r = fl.length then x else fl.getD r 0 := by
  simp only [List.getD_eq_getElem?_getD]
  by_cases e : r = fl.length
  · subst e; simp
  · rw [if_neg e]
    by_cases h : r < fl.length
    · rw [List.getElem?_append_left h]
    · rw [List.getElem?_append_right (by omega), List.getElem?_eq_none (by simp; omega), List.getElem?_eq_none (by omega)]

/-- A quiet callee, met behind n draws of one's own and k of the region's. -/
theorem quiet_at {f : FuncId} {args : Array Value} {w : World} {n k : Nat} {v : Value}
    (h : Calls Try.prog f args (w.drewN (n + k)) fun e w' => e = .returned v ∧ ∃ m, w' = (w.drewN (n + k)).drewN m) : Calls Try.prog f args (w.drewN (n + k)) fun e w'' => e = .returned v ∧ ∃ m, w'' = w.drewN (n + m) :=
  h.mono fun _ _ ⟨he, m, hm⟩ => ⟨he, k + m, by rw [hm, World.drewN_drewN, Nat.add_assoc]⟩

set_option maxRecDepth 100000 in
set_option maxHeartbeats 2000000 in
theorem walk4 (w : World) (av sv : Option Addr) (N cap M scap : Nat) (V : Nat → Value) (T : Nat → List UInt8) (S : Nat → Nat) (R : Rows2 w av N cap V T) (Q : Row16 w sv M scap S) :
    Calls Try.prog 4 #[.slice av N cap, .slice sv M scap] w fun e w' => e = .returned (.bool true) ∧ Below w.heap.size w w' := by
  have hlN := R.len
  have hlM := Q.len
  go_enter Try.func4, Try.ntmps4
  go_wp2_with fail
  refine (zz7 w av sv N cap M scap V T R hlM).mono ?_
  rintro e w1 ⟨⟨b, rfl, hzz⟩, rfl⟩
  cases b
  · clear hzz
    go_wp2
    go_ret
    exact ⟨rfl, Below.refl _ _⟩
  have HZ : Hid (∀ i, i < N → (T i).length ≤ 1048576) := hzz rfl
  clear hzz
  by_cases hN : 65536 < N
  · go_wp2
    go_ret
    exact ⟨rfl, Below.refl _ _⟩
  by_cases hM : 4096 < M
  · go_wp2
    go_ret
    exact ⟨rfl, Below.refl _ _⟩
  go_wp2
  go_loop [5, 6] (fun z i => ∃ (k : Nat) (y : Int), k ≤ N ∧ i = .int .i64 k ∧ z = .int .i64 y ∧ 0 ≤ y ∧ y ≤ 2000000 ∧ Hid (∀ j, j < k → (T j).length ≤ 1048576)) (fun _ i => N - (intOf i).toNat)
  case atStart => exact ⟨0, N * 24 + M * 2, by omega, rfl, rfl, by omega, by omega, fun j h => absurd h (by omega)⟩
  case round =>
    obtain ⟨k, y, hk, rfl, rfl, hy0, hy1, hall⟩ := hrel
    by_cases hlt : k < N
    · obtain ⟨b, off, rfl, hc⟩ := R.row (by omega)
      have hck := hc k hlt
      obtain ⟨a, c, hv⟩ := (R.each k hlt).slice
      have hl := HZ.out k hlt
      rw [hv] at hck
      clear hc hv
      by_cases h2 : 1048576 < y + (T k).length
      · go_wp2
        go_ret
        exact ⟨rfl, Below.refl _ _⟩
      · go_wp2
        go_round
        case rel =>
          refine ⟨k + 1, y + (T k).length, by omega, by go_num, rfl, by omega, by omega, fun j hj => ?_⟩
          by_cases e : j = k
          · subst e; omega
          · exact hall.out j (by omega)
        case measure => simp [intOf]; omega
    · by_cases hy : 1048576 < y
      · go_wp2
        go_ret
        exact ⟨rfl, Below.refl _ _⟩
      · go_wp2
        go_loop [7] (fun i => ∃ t : Nat, t ≤ M ∧ i = .int .i64 t ∧ Hid (∀ j, j < t → S j < N)) (fun i => M - (intOf i).toNat)
        case atStart => exact ⟨0, by omega, rfl, fun j h => absurd h (by omega)⟩
        case round =>
          obtain ⟨t, ht, rfl, hin⟩ := hrel
          by_cases hlt2 : t < M
          · obtain ⟨b, off, rfl, hc⟩ := Q.row (by omega)
            have hck := hc t hlt2
            have hf := Q.fits t hlt2
            clear hc
            by_cases h3 : N ≤ S t
            · go_wp2
              go_ret
              exact ⟨rfl, Below.refl _ _⟩
            · go_wp2
              go_round
              case rel =>
                refine ⟨t + 1, by omega, by go_num, fun j hj => ?_⟩
                by_cases e : j = t
                · subst e; omega
                · exact hin.out j (by omega)
              case measure => simp [intOf]; omega
          · have hT : ∀ i, i < N → (T i).length ≤ 1048576 := fun i hi => hall.out i (by omega)
            have hS : ∀ i, i < M → S i < N := fun i hi => hin.out i (by omega)
            clear hall hin
            go_wp2_with fail
            refine (infos_any w av N cap V T R hT (by omega)).mono ?_
            rintro e w1 ⟨av', cap', gi, V', rfl, hgi, hci, hBi, hbel1⟩
            have Q1 : Row16 w1 sv M scap S := ⟨Q.nil, fun h => by
              obtain ⟨b, off, e, hc⟩ := Q.row h
              exact ⟨b, off, e, fun i hi => (hbel1.cell (p := ⟨b, off + i, none⟩) (block_lt_of_cell (hc i hi))).trans (hc i hi)⟩, Q.fits, Q.len⟩
            have C1 : Hid (∀ i, i < N → w1.cell? ⟨gi, i, none⟩ = some (V' i)) := hci
            have C2 : Hid (∀ i, i < N → Bts 0 w1 (V' i) (T i)) := hBi
            have C3 : Hid (0 < N → av' = some ⟨gi, 0, none⟩) := hgi
            clear hci hBi hgi R Q
            go_wp2_with fail
            refine (script_any w1 sv M scap S Q1 (by omega)).mono ?_
            rintro e w2 ⟨sv', scap', gs, rfl, hgs, hcs, hbel2⟩
            have C4 : Hid (∀ i, i < M → w2.cell? ⟨gs, i, none⟩ = some (.int .u16 (S i : Int))) := hcs
            have C5 : Hid (0 < M → sv' = some ⟨gs, 0, none⟩) := hgs
            have C6 : ∀ i, i < N → w2.cell? ⟨gi, i, none⟩ = some (V' i) := fun i hi => (hbel2.cell (p := ⟨gi, i, none⟩) (block_lt_of_cell (C1.out i hi))).trans (C1.out i hi)
            have C7 : Hid (∀ i, i < N → Bts 0 w2 (V' i) (T i)) := fun i hi => (C2.out i hi).mono (Nat.le_refl _) hbel2
            have H6 : Hid _ := C6
            clear hcs hgs Q1 C1 C2 C6
            go_wp2_with fail
            refine (pool_any w2 av' gi N cap' V' C3.out H6.out (fun i hi => by obtain ⟨a, c, e⟩ := (C7.out i hi).slice; exact ⟨_, _, _, e⟩) (by omega)).mono ?_
            rintro e wP ⟨rfl, hrow, hbel3, hsz3⟩
            have BA : Base wP w2.heap.size N M T S gi gs V' := base_mk hrow hbel3 hsz3 H6.out C7.out C4.out hS hT (by omega)
            have HB : Hid (Below w.heap.size w wP) := (hbel1.trans (hbel2.mono hbel1.size)).trans (hbel3.mono (Nat.le_trans hbel1.size hbel2.size))
            clear hrow hbel1 hbel2 hbel3 C7 C4 H6 hS hT HZ
            generalize w2.heap.size = gp at *
            clear w2 w1
            go_wp2_with fail
            refine (new_any _ _ _ _).mono ?_
            rintro e w3 ⟨rfl, rfl⟩
            have hmk := run_make_cap M (by omega)
            have F0 : Hid _ := born_FSt wP gp N T hsz3 (madeCells #[.int .u16 0] M) 22
            go_wp2
            clear hmk
            go_loopw [10, 11] (fun fs ti wr => ∃ (t : Nat) (fl : List Nat), t ≤ M ∧ ti = .int .i64 t ∧ fs = .slice (some ⟨gp + 1 + 1, 0, none⟩) fl.length M ∧ fl.length ≤ t ∧ wr.rowIs (gp + 1 + 1) 22 M (fun r => .int .u16 (fl.getD r 0 : Nat)) ∧ FSt wP (gp + 1) gp N T (asks S t) wr ∧ FL T fl (asks S t) ∧ Hid (∀ j ∈ fl, j < N)) (fun _ ti _ => M - (intOf ti).toNat)
            case atStart =>
              refine ⟨0, [], by omega, rfl, rfl, by simp, ?_, F0.out, fun _ => rfl, fun j hj => by simp at hj⟩
              have hr := World.rowIs_made (wP.alloc (.cells #[.slice (some ⟨gp, 0, none⟩) N N, .map none, .map none] 49)) (.int .u16 0) M 22
              have e : (wP.alloc (.cells #[.slice (some ⟨gp, 0, none⟩) N N, .map none, .map none] 49)).heap.size = gp + 1 + 1 := by simp [hsz3]
              rw [e] at hr
              exact hr.congr (fun i _ => by simp)
            case round =>
              obtain ⟨t, fl, ht, rfl, rfl, hflt, hrow, F, hFL, hfl⟩ := hrel
              by_cases htM : t < M
              · have hi := BA.ins t htM
                have e1 := C5.out (by omega)
                have e2 := C3.out (by omega)
                subst e1 e2
                have hcs := BA.script t htM
                have hci : wr.cell? ⟨gs, t, none⟩ = some (.int .u16 (S t : Int)) := (F.below.cell (p := ⟨gs, t, none⟩) (by have : gs < wP.heap.size := block_lt_of_cell hcs; show gs < gp + 1; omega)).trans hcs
                have HF : Hid (FSt wP (gp + 1) gp N T (asks S t) wr) := F
                have HR : Hid (wr.rowIs (gp + 1 + 1) 22 M (fun r => .int .u16 (fl.getD r 0 : Nat))) := hrow
                clear F hrow hcs
                go_wp2_with fail
                refine (ask_any BA.stat HF.out (S t) hi (by rw [asks_length]; omega)).mono ?_
                rintro e w4 ⟨rfl, F4, hga⟩
                have HF4 : Hid (FSt wP (gp + 1) gp N T (asks S (t + 1)) w4) := by show FSt wP (gp + 1) gp N T (asks S (t + 1)) w4; rw [asks_succ]; exact F4
                have HR4 : Hid (w4.rowIs (gp + 1 + 1) 22 M (fun r => .int .u16 (fl.getD r 0 : Nat))) := HR.out.of_block hga
                clear F4 hga HF HR hci
                go_wp2
                go_loopw [14, 15, 16] (fun want seen ri wq => ∃ q n : Nat, q ≤ fl.length ∧ ri = .int .i64 q ∧ want = .int .u16 (S t : Int) ∧ seen = .bool false ∧ wq = w4.drewN n ∧ Hid (∀ j, j < q → T (fl.getD j 0) ≠ T (S t))) (fun _ _ ri _ => fl.length - (intOf ri).toNat)
                case atStart => exact ⟨0, 0, by omega, rfl, rfl, rfl, rfl, fun j h => absurd h (by omega)⟩
                case round =>
                  obtain ⟨q, n, hq, rfl, rfl, rfl, rfl, hno⟩ := hrel
                  by_cases hql : q < fl.length
                  · obtain ⟨x, hx⟩ : ∃ x, fl.getD q 0 = x := ⟨_, rfl⟩
                    have hxm : x ∈ fl := hx ▸ getD_mem fl q hql
                    have hxN : x < N := hfl.out x hxm
                    have hcx : w4.cell? ⟨gp + 1 + 1, q, none⟩ = some (.int .u16 (x : Int)) := by rw [HR4.out.cell (i := q) (by omega), hx]
                    by_cases hxi : x = S t
                    · have HT : Hid (T x = T (S t)) := by rw [hxi]; rfl
                      have hEq : ((x : Int) == (S t : Int)) = true := by rw [hxi]; simp
                      clear hxi
                      have hh := hFL.hit (S t) q hql (by rw [hx, HT.out]) hno.out
                      rw [hx] at hh
                      have hgot : ((firstOf T (asks S t) (S t) : Int) != (x : Int)) = false := by rw [hh]; simp
                      have HFL : Hid (FL T fl (asks S (t + 1))) := by show FL T fl (asks S (t + 1)); rw [asks_succ]; exact hFL.seen (S t) x hxm HT.out
                      clear hh hx hFL hno
                      go_wp2
                      go_quiet (fail)
                      go_wp2
                      go_roundw
                      case rel => exact ⟨t + 1, fl, by omega, by go_num, rfl, by omega, HR4.out, HF4.out.drewN _, HFL.out, hfl⟩
                      case measure => simp [intOf]; omega
                    · have hEq : ((x : Int) == (S t : Int)) = false := beq_eq_false_iff_ne.2 (by omega)
                      have hbl : ∀ i, i < N → gi < gp + 1 := fun i hi => by
                        have : gi < wP.heap.size := block_lt_of_cell (BA.info i hi)
                        omega
                      obtain ⟨ax, cx, hvx⟩ := (BA.texts x hxN).slice
                      obtain ⟨ai, ci, hvi⟩ := (BA.texts (S t) hi).slice
                      have k1 : w4.cell? ⟨gi, x, none⟩ = some (.slice ax (T x).length cx) := by rw [← hvx]; exact (HF4.out.below.cell (p := ⟨gi, x, none⟩) (hbl x hxN)).trans (BA.info x hxN)
                      have k2 : w4.cell? ⟨gi, S t, none⟩ = some (.slice ai (T (S t)).length ci) := by rw [← hvi]; exact (HF4.out.below.cell (p := ⟨gi, S t, none⟩) (hbl _ hi)).trans (BA.info _ hi)
                      have b1 : Bts 0 w4 (.slice ax (T x).length cx) (T x) := by rw [← hvx]; exact (BA.texts x hxN).mono (C := gp + 1) (by omega) HF4.out.below
                      have b2 : Bts 0 w4 (.slice ai (T (S t)).length ci) (T (S t)) := by rw [← hvi]; exact (BA.texts _ hi).mono (C := gp + 1) (by omega) HF4.out.below
                      have l1 := BA.stat.lens x hxN
                      have l2 := BA.stat.lens (S t) hi
                      clear hvx hvi hxi hbl
                      by_cases hT : T x = T (S t)
                      · have HT : Hid (T x = T (S t)) := hT
                        have hTb : (T x == T (S t)) = true := by rw [hT]; simp
                        clear hT
                        have hh := hFL.hit (S t) q hql (by rw [hx, HT.out]) hno.out
                        rw [hx] at hh
                        have hgot : ((firstOf T (asks S t) (S t) : Int) != (x : Int)) = false := by rw [hh]; simp
                        have HFL : Hid (FL T fl (asks S (t + 1))) := by show FL T fl (asks S (t + 1)); rw [asks_succ]; exact hFL.seen (S t) x hxm HT.out
                        clear hh hx hFL hno
                        go_wp2
                        go_quiet ((go_at_call 13; exact quiet_at (equal_any _ b1 b2 l1 l2)))
                        go_wp2
                        go_roundw
                        case rel => exact ⟨t + 1, fl, by omega, by go_num, rfl, by omega, HR4.out, HF4.out.drewN _, HFL.out, hfl⟩
                        case measure => simp [intOf]; omega
                      · have hTb : (T x == T (S t)) = false := beq_eq_false_iff_ne.2 hT
                        have HT : Hid (¬ T x = T (S t)) := hT
                        have HX : Hid (fl.getD q 0 = x) := hx
                        clear hT hx
                        go_wp2
                        go_quiet ((go_at_call 13; exact quiet_at (equal_any _ b1 b2 l1 l2)))
                        go_wp2
                        go_roundw
                        case rel =>
                          refine ⟨q + 1, _, by omega, by go_num, rfl, rfl, rfl, fun j hj => ?_⟩
                          by_cases e : j = q
                          · subst e; rw [HX.out]; exact HT.out
                          · exact hno.out j (by omega)
                        case measure => simp [intOf]; omega
                  · have hmiss := hFL.miss (S t) (fun j hj => hno.out j (by omega))
                    have hgot : ((firstOf T (asks S t) (S t) : Int) != (S t : Int)) = false := by rw [hmiss]; simp
                    have hsz4 := HF4.out.size
                    have hne : ¬ gp + 1 + 1 = w4.heap.size := by omega
                    have hnew : ((w4.drewN n).alloc (.cells #[.int .u16 (S t : Int)] 22)).cell? ⟨w4.heap.size, 0, none⟩ = some (.int .u16 (S t : Int)) := World.cell?_alloc_mark (w4.drewN n) _ _ _ 0
                    have R5 : ((w4.drewN n).alloc (.cells #[.int .u16 (S t : Int)] 22)).rowIs (gp + 1 + 1) 22 M (fun r => .int .u16 (fl.getD r 0 : Nat)) := World.rowIs.alloc (w := w4.drewN n) HR4.out _
                    have hold5 := R5.cell (i := fl.length) (by omega)
                    have hfz5 := R5.frozen fl.length
                    have R6 : Hid ((((w4.drewN n).alloc (.cells #[.int .u16 (S t : Int)] 22)).setCell ⟨gp + 1 + 1, fl.length, none⟩ (.int .u16 (S t : Int))).rowIs (gp + 1 + 1) 22 M (fun r => .int .u16 ((fl ++ [S t]).getD r 0 : Nat))) :=
                      (R5.set fl.length (.int .u16 (S t : Int))).congr (fun r _ => by
                        rw [getD_snoc]
                        by_cases e : r = fl.length
                        · rw [if_pos e, if_pos e]
                        · rw [if_neg e, if_neg e])
                    have F5 : Hid (FSt wP (gp + 1) gp N T (asks S (t + 1)) (((w4.drewN n).alloc (.cells #[.int .u16 (S t : Int)] 22)).setCell ⟨gp + 1 + 1, fl.length, none⟩ (.int .u16 (S t : Int)))) :=
                      FSt.kept (FSt.kept (HF4.out.drewN n) (gp + 1 + 1) (.inl rfl) (World.grownBy_alloc _ _ _)) (gp + 1 + 1) (.inl rfl) ⟨rfl, rfl, rfl, by simp [World.setCell], fun k _ hk => Below.heap_setCell _ _ _ _ (fun e => hk (by rw [e]))⟩
                    have HFL : Hid (FL T (fl ++ [S t]) (asks S (t + 1))) := by show FL T (fl ++ [S t]) (asks S (t + 1)); rw [asks_succ]; exact hFL.snoc (S t)
                    clear hmiss R5 HR4 HF4
                    go_wp2
                    go_roundw
                    case rel =>
                      refine ⟨t + 1, fl ++ [S t], by omega, by go_num, by simp, by simp; omega, R6.out, F5.out, HFL.out, fun j hj => ?_⟩
                      rcases List.mem_append.1 hj with h | h
                      · exact hfl.out j h
                      · simp at h; omega
                    case measure => simp [intOf]; omega
              · go_wp2
                go_ret
                refine ⟨rfl, HB.out.trans (F.below.mono ?_)⟩
                have := HB.out.size
                omega
end Go.Proofs.Qxb6605465a
