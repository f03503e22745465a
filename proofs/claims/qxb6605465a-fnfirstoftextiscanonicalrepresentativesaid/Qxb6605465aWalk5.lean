import Derived.Test.Qxb6605465aWalk4
namespace Go.Proofs.Qxb6605465a
open Go.RowKit

/-! ### The plain side -/

/-- The answer to ask j. -/
def ans (T : Nat → List UInt8) (S : Nat → Nat) (j : Nat) : Nat := firstOf T (asks S j) (S j)

theorem find_after (T : Nat → List UInt8) (S : Nat → Nat) (u : Nat) : ∀ d, (asks S (u + 1 + d)).find? (fun j => T j == T (S u)) = some (ans T S u)
  | 0 => by
    rw [Nat.add_zero, asks_succ, List.find?_append]
    unfold ans firstOf
    cases e : (asks S u).find? (fun j => T j == T (S u)) with
    | some x => rfl
    | none => simp
  | d + 1 => by
    rw [show u + 1 + (d + 1) = (u + 1 + d) + 1 by omega, asks_succ, List.find?_append, find_after T S u d]
    rfl

/-- Equal texts, one answer. -/
theorem ans_same (T : Nat → List UInt8) (S : Nat → Nat) (u t : Nat) (h : u < t) (ht : T (S u) = T (S t)) : ans T S t = ans T S u := by
  have := find_after T S u (t - (u + 1))
  rw [show u + 1 + (t - (u + 1)) = t by omega, ht] at this
  unfold ans firstOf at *
  rw [this]
  rfl

theorem mem_asks {S : Nat → Nat} {t x : Nat} (h : x ∈ asks S t) : ∃ j, j < t ∧ S j = x := by
  unfold asks at h
  obtain ⟨j, hj, rfl⟩ := List.mem_map.1 h
  exact ⟨j, by simpa using hj, rfl⟩

/-- The answer has been asked, and has the text. -/
theorem ans_asked (T : Nat → List UInt8) (S : Nat → Nat) (t : Nat) : T (ans T S t) = T (S t) ∧ ∃ j, j ≤ t ∧ S j = ans T S t := by
  unfold ans
  cases h : (asks S t).any (fun j => T j == T (S t))
  · rw [firstOf_new T _ _ h]
    exact ⟨rfl, t, Nat.le_refl _, rfl⟩
  · obtain ⟨hm, ht⟩ := firstOf_mem T _ _ h
    obtain ⟨j, hj, e⟩ := mem_asks hm
    exact ⟨ht, j, by omega, e⟩

set_option maxRecDepth 100000 in
set_option maxHeartbeats 2000000 in
theorem walk5 (w : World) (av sv : Option Addr) (N cap M scap : Nat) (V : Nat → Value) (T : Nat → List UInt8) (S : Nat → Nat) (R : Rows2 w av N cap V T) (Q : Row16 w sv M scap S) :
    Calls Try.prog 5 #[.slice av N cap, .slice sv M scap] w fun e w' => e = .returned (.bool true) ∧ Below w.heap.size w w' := by
  have hlN := R.len
  have hlM := Q.len
  go_enter Try.func5, Try.ntmps5
  go_wp2_with fail
  refine (zz14 w av sv N cap M scap V T R hlM).mono ?_
  rintro e w1 ⟨⟨b, rfl, hzz⟩, rfl⟩
  cases b
  · clear hzz
    go_wp2
    go_ret
    exact ⟨rfl, Below.refl _ _⟩
  have HZ : Hid (∀ i, i < N → (T i).length ≤ 1048576) := hzz rfl
  clear hzz
  by_cases hN : 65536 < N
  · go_wp2
    go_ret
    exact ⟨rfl, Below.refl _ _⟩
  by_cases hM : 4096 < M
  · go_wp2
    go_ret
    exact ⟨rfl, Below.refl _ _⟩
  go_wp2
  go_loop [5, 6] (fun z i => ∃ (k : Nat) (y : Int), k ≤ N ∧ i = .int .i64 k ∧ z = .int .i64 y ∧ 0 ≤ y ∧ y ≤ 2000000 ∧ Hid (∀ j, j < k → (T j).length ≤ 1048576)) (fun _ i => N - (intOf i).toNat)
  case atStart => exact ⟨0, N * 24 + M * 2, by omega, rfl, rfl, by omega, by omega, fun j h => absurd h (by omega)⟩
  case round =>
    obtain ⟨k, y, hk, rfl, rfl, hy0, hy1, hall⟩ := hrel
    by_cases hlt : k < N
    · obtain ⟨b, off, rfl, hc⟩ := R.row (by omega)
      have hck := hc k hlt
      obtain ⟨a, c, hv⟩ := (R.each k hlt).slice
      have hl := HZ.out k hlt
      rw [hv] at hck
      clear hc hv
      by_cases h2 : 1048576 < y + (T k).length
      · go_wp2
        go_ret
        exact ⟨rfl, Below.refl _ _⟩
      · go_wp2
        go_round
        case rel =>
          refine ⟨k + 1, y + (T k).length, by omega, by go_num, rfl, by omega, by omega, fun j hj => ?_⟩
          by_cases e : j = k
          · subst e; omega
          · exact hall.out j (by omega)
        case measure => simp [intOf]; omega
    · by_cases hy : 1048576 < y
      · go_wp2
        go_ret
        exact ⟨rfl, Below.refl _ _⟩
      · go_wp2
        go_loop [7] (fun i => ∃ t : Nat, t ≤ M ∧ i = .int .i64 t ∧ Hid (∀ j, j < t → S j < N)) (fun i => M - (intOf i).toNat)
        case atStart => exact ⟨0, by omega, rfl, fun j h => absurd h (by omega)⟩
        case round =>
          obtain ⟨t, ht, rfl, hin⟩ := hrel
          by_cases hlt2 : t < M
          · obtain ⟨b, off, rfl, hc⟩ := Q.row (by omega)
            have hck := hc t hlt2
            have hf := Q.fits t hlt2
            clear hc
            by_cases h3 : N ≤ S t
            · go_wp2
              go_ret
              exact ⟨rfl, Below.refl _ _⟩
            · go_wp2
              go_round
              case rel =>
                refine ⟨t + 1, by omega, by go_num, fun j hj => ?_⟩
                by_cases e : j = t
                · subst e; omega
                · exact hin.out j (by omega)
              case measure => simp [intOf]; omega
          · have hT : ∀ i, i < N → (T i).length ≤ 1048576 := fun i hi => hall.out i (by omega)
            have hS : ∀ i, i < M → S i < N := fun i hi => hin.out i (by omega)
            clear hall hin
            go_wp2_with fail
            refine (infos_any w av N cap V T R hT (by omega)).mono ?_
            rintro e w1 ⟨av', cap', gi, V', rfl, hgi, hci, hBi, hbel1⟩
            have Q1 : Row16 w1 sv M scap S := ⟨Q.nil, fun h => by
              obtain ⟨b, off, e, hc⟩ := Q.row h
              exact ⟨b, off, e, fun i hi => (hbel1.cell (p := ⟨b, off + i, none⟩) (block_lt_of_cell (hc i hi))).trans (hc i hi)⟩, Q.fits, Q.len⟩
            have C1 : Hid (∀ i, i < N → w1.cell? ⟨gi, i, none⟩ = some (V' i)) := hci
            have C2 : Hid (∀ i, i < N → Bts 0 w1 (V' i) (T i)) := hBi
            have C3 : Hid (0 < N → av' = some ⟨gi, 0, none⟩) := hgi
            clear hci hBi hgi R Q
            go_wp2_with fail
            refine (script_any w1 sv M scap S Q1 (by omega)).mono ?_
            rintro e w2 ⟨sv', scap', gs, rfl, hgs, hcs, hbel2⟩
            have C4 : Hid (∀ i, i < M → w2.cell? ⟨gs, i, none⟩ = some (.int .u16 (S i : Int))) := hcs
            have C5 : Hid (0 < M → sv' = some ⟨gs, 0, none⟩) := hgs
            have C6 : ∀ i, i < N → w2.cell? ⟨gi, i, none⟩ = some (V' i) := fun i hi => (hbel2.cell (p := ⟨gi, i, none⟩) (block_lt_of_cell (C1.out i hi))).trans (C1.out i hi)
            have C7 : Hid (∀ i, i < N → Bts 0 w2 (V' i) (T i)) := fun i hi => (C2.out i hi).mono (Nat.le_refl _) hbel2
            have H6 : Hid _ := C6
            clear hcs hgs Q1 C1 C2 C6
            go_wp2_with fail
            refine (pool_any w2 av' gi N cap' V' C3.out H6.out (fun i hi => by obtain ⟨a, c, e⟩ := (C7.out i hi).slice; exact ⟨_, _, _, e⟩) (by omega)).mono ?_
            rintro e wP ⟨rfl, hrow, hbel3, hsz3⟩
            have BA : Base wP w2.heap.size N M T S gi gs V' := base_mk hrow hbel3 hsz3 H6.out C7.out C4.out hS hT (by omega)
            have HB : Hid (Below w.heap.size w wP) := (hbel1.trans (hbel2.mono hbel1.size)).trans (hbel3.mono (Nat.le_trans hbel1.size hbel2.size))
            clear hrow hbel1 hbel2 hbel3 C7 C4 H6 hS hT HZ
            generalize w2.heap.size = gp at *
            clear w2 w1
            go_wp2_with fail
            refine (new_any _ _ _ _).mono ?_
            rintro e w3 ⟨rfl, rfl⟩
            have hmk := run_make_row' (P := Try.prog) 26 22 (.int .u16 0) 2 Try.underlying26 Try.info22 rfl .i64 .i64 M (by omega) (by omega)
            have F0 : Hid _ := born_FSt wP gp N T hsz3 (madeCells #[.int .u16 0] M) 22
            go_wp2
            clear hmk
            go_loopw [11] (fun ti wr => ∃ t : Nat, t ≤ M ∧ ti = .int .i64 t ∧ wr.rowIs (gp + 1 + 1) 22 M (upTo (fun j => .int .u16 (ans T S j : Nat)) (.int .u16 0) t) ∧ FSt wP (gp + 1) gp N T (asks S t) wr) (fun ti _ => M - (intOf ti).toNat)
            case atStart =>
              refine ⟨0, by omega, rfl, ?_, F0.out⟩
              have hr := World.rowIs_made (wP.alloc (.cells #[.slice (some ⟨gp, 0, none⟩) N N, .map none, .map none] 49)) (.int .u16 0) M 22
              have e : (wP.alloc (.cells #[.slice (some ⟨gp, 0, none⟩) N N, .map none, .map none] 49)).heap.size = gp + 1 + 1 := by simp [hsz3]
              rw [e] at hr
              exact hr.congr (fun i _ => by simp [upTo])
            case round =>
              obtain ⟨t, ht, rfl, hrow, F⟩ := hrel
              by_cases htM : t < M
              · have hi := BA.ins t htM
                have e1 := C5.out (by omega)
                subst e1
                have hcs := BA.script t htM
                have hci : wr.cell? ⟨gs, t, none⟩ = some (.int .u16 (S t : Int)) := (F.below.cell (p := ⟨gs, t, none⟩) (by have : gs < wP.heap.size := block_lt_of_cell hcs; show gs < gp + 1; omega)).trans hcs
                have HF : Hid (FSt wP (gp + 1) gp N T (asks S t) wr) := F
                have HR : Hid (wr.rowIs (gp + 1 + 1) 22 M (upTo (fun j => .int .u16 (ans T S j : Nat)) (.int .u16 0) t)) := hrow
                clear F hrow hcs
                go_wp2_with fail
                refine (ask_any BA.stat HF.out (S t) hi (by rw [asks_length]; omega)).mono ?_
                rintro e w4 ⟨rfl, F4, hga⟩
                have R4 := HR.out.of_block hga
                have hold := R4.cell (i := t) htM
                have hfz := R4.frozen t
                have HR4 : Hid ((w4.setCell ⟨gp + 1 + 1, t, none⟩ (.int .u16 (firstOf T (asks S t) (S t) : Nat))).rowIs (gp + 1 + 1) 22 M (upTo (fun j => .int .u16 (ans T S j : Nat)) (.int .u16 0) (t + 1))) :=
                  (R4.set t (.int .u16 (firstOf T (asks S t) (S t) : Nat))).congr (fun j _ => upTo_step (fun j => .int .u16 (ans T S j : Nat)) _ t j)
                have HF4 : Hid (FSt wP (gp + 1) gp N T (asks S (t + 1)) (w4.setCell ⟨gp + 1 + 1, t, none⟩ (.int .u16 (firstOf T (asks S t) (S t) : Nat)))) := by
                  show FSt wP (gp + 1) gp N T (asks S (t + 1)) _
                  rw [asks_succ]
                  exact FSt.kept F4 (gp + 1 + 1) (.inl rfl) ⟨rfl, rfl, rfl, by simp [World.setCell], fun k _ hk => Below.heap_setCell _ _ _ _ (fun e => hk (by rw [e]))⟩
                clear F4 hga HF HR hci R4
                go_wp2
                go_roundw
                case rel => exact ⟨t + 1, by omega, by go_num, HR4.out, HF4.out⟩
                case measure => simp [intOf]; omega
              · obtain rfl : t = M := by omega
                have HF : Hid (FSt wP (gp + 1) gp N T (asks S t) wr) := F
                have hans : Hid (∀ j, j < t → wr.cell? ⟨gp + 1 + 1, j, none⟩ = some (.int .u16 (ans T S j : Int))) := fun j hj => by rw [hrow.cell hj]; simp [upTo, hj]
                have hscr : Hid (∀ j, j < t → wr.cell? ⟨gs, j, none⟩ = some (.int .u16 (S j : Int))) := fun j hj => (F.below.cell (p := ⟨gs, j, none⟩) (by have : gs < wP.heap.size := block_lt_of_cell (BA.script j hj); show gs < gp + 1; omega)).trans (BA.script j hj)
                clear F hrow
                go_wp2
                go_loopw [12] (fun si wq => ∃ s n : Nat, s ≤ t ∧ si = .int .i64 s ∧ wq = wr.drewN n) (fun si _ => t - (intOf si).toNat)
                case atStart => exact ⟨0, 0, by omega, rfl, rfl⟩
                case round =>
                  obtain ⟨s, n, hs, rfl, hwq⟩ := hrel
                  subst hwq
                  by_cases hst : s < t
                  · have e1 := C5.out (by omega)
                    subst e1
                    have his := BA.ins s hst
                    have e2 := C3.out (by omega)
                    subst e2
                    obtain ⟨A, hA⟩ : ∃ A, ans T S s = A := ⟨_, rfl⟩
                    obtain ⟨hAT, hAj⟩ := ans_asked T S s
                    rw [hA] at hAT hAj
                    have hAN : A < N := by obtain ⟨j, hj, e⟩ := hAj; rw [← e]; exact BA.ins j (by omega)
                    have ca := hans.out s hst
                    rw [hA] at ca
                    have cs := hscr.out s hst
                    have HA : Hid (ans T S s = A) := hA
                    have HAT : Hid (T A = T (S s)) := hAT
                    have HAJ : Hid (∃ j, j ≤ s ∧ S j = A) := hAj
                    have hTb : (T A == T (S s)) = true := by rw [hAT]; simp
                    clear hA hAT hAj
                    have hbl : ∀ i, i < N → gi < gp + 1 := fun i hi => by
                      have : gi < wP.heap.size := block_lt_of_cell (BA.info i hi)
                      omega
                    obtain ⟨ax, cx, hvx⟩ := (BA.texts A hAN).slice
                    obtain ⟨ai, ci, hvi⟩ := (BA.texts (S s) his).slice
                    have k1 : wr.cell? ⟨gi, A, none⟩ = some (.slice ax (T A).length cx) := by rw [← hvx]; exact (HF.out.below.cell (p := ⟨gi, A, none⟩) (hbl A hAN)).trans (BA.info A hAN)
                    have k2 : wr.cell? ⟨gi, S s, none⟩ = some (.slice ai (T (S s)).length ci) := by rw [← hvi]; exact (HF.out.below.cell (p := ⟨gi, S s, none⟩) (hbl _ his)).trans (BA.info _ his)
                    have b1 : Bts 0 wr (.slice ax (T A).length cx) (T A) := by rw [← hvx]; exact (BA.texts A hAN).mono (C := gp + 1) (by omega) HF.out.below
                    have b2 : Bts 0 wr (.slice ai (T (S s)).length ci) (T (S s)) := by rw [← hvi]; exact (BA.texts _ his).mono (C := gp + 1) (by omega) HF.out.below
                    have l1 := BA.stat.lens A hAN
                    have l2 := BA.stat.lens (S s) his
                    clear hvx hvi
                    by_cases hAi : A = S s
                    · have hne : ((A : Int) != (S s : Int)) = false := by rw [hAi]; simp
                      clear hAi
                      go_wp2
                      go_quiet (fail)
                      go_wp2
                      go_loop [15, 16] (fun asked ji => ∃ q : Nat, q ≤ s + 1 ∧ ji = .int .i64 q ∧ asked = .bool false ∧ Hid (∀ j, j < q → S j ≠ A)) (fun _ ji => s + 1 - (intOf ji).toNat)
                      case atStart => exact ⟨0, by omega, rfl, rfl, fun j h => absurd h (by omega)⟩
                      case round =>
                        obtain ⟨q, hq, rfl, rfl, hno⟩ := hrel
                        by_cases hqs : q ≤ s
                        · have cq := hscr.out q (by omega)
                          by_cases hqA : S q = A
                          · have hqe : ((S q : Int) == (A : Int)) = true := by rw [hqA]; simp
                            clear hqA
                            go_wp2
                            clear hqe cq hno
                            go_loopw [17] (fun ui wq => ∃ u m : Nat, u ≤ s ∧ ui = .int .i64 u ∧ wq = wr.drewN m) (fun ui _ => s - (intOf ui).toNat)
                            case atStart => exact ⟨0, _, by omega, rfl, rfl⟩
                            case round =>
                              obtain ⟨u, m, hu, rfl, hwq⟩ := hrel
                              subst hwq
                              by_cases hus : u < s
                              · have cu := hscr.out u (by omega)
                                have au := hans.out u (by omega)
                                have hiu := BA.ins u (by omega)
                                by_cases huv : S u = S s
                                · have huq : ((S u : Int) == (S s : Int)) = true := by rw [huv]; simp
                                  have hsame : ((ans T S u : Int) != (A : Int)) = false := by rw [← HA.out, ans_same T S u s hus (by rw [huv])]; simp
                                  clear huv
                                  go_wp2
                                  go_quiet (fail)
                                  go_wp2
                                  go_roundw
                                  case rel => exact ⟨s + 1, _, by omega, by go_num, rfl⟩
                                  case measure => simp [intOf]; omega
                                · have huq : ((S u : Int) == (S s : Int)) = false := beq_eq_false_iff_ne.2 (by omega)
                                  obtain ⟨au', cu', hvu⟩ := (BA.texts (S u) hiu).slice
                                  have k3 : wr.cell? ⟨gi, S u, none⟩ = some (.slice au' (T (S u)).length cu') := by rw [← hvu]; exact (HF.out.below.cell (p := ⟨gi, S u, none⟩) (hbl _ hiu)).trans (BA.info _ hiu)
                                  have b3 : Bts 0 wr (.slice au' (T (S u)).length cu') (T (S u)) := by rw [← hvu]; exact (BA.texts _ hiu).mono (C := gp + 1) (by omega) HF.out.below
                                  have l3 := BA.stat.lens (S u) hiu
                                  clear hvu huv
                                  by_cases hT : T (S u) = T (S s)
                                  · have hTu : (T (S u) == T (S s)) = true := by rw [hT]; simp
                                    have hsame : ((ans T S u : Int) != (A : Int)) = false := by rw [← HA.out, ans_same T S u s hus hT]; simp
                                    clear hT
                                    go_wp2
                                    go_quiet ((go_at_call 13; exact quiet_at (equal_any _ b3 b2 l3 l2)))
                                    go_wp2
                                    go_roundw
                                    case rel => exact ⟨s + 1, _, by omega, by go_num, rfl⟩
                                    case measure => simp [intOf]; omega
                                  · have hTu : (T (S u) == T (S s)) = false := beq_eq_false_iff_ne.2 hT
                                    clear hT
                                    go_wp2
                                    go_quiet ((go_at_call 13; exact quiet_at (equal_any _ b3 b2 l3 l2)))
                                    go_wp2
                                    go_roundw
                                    case rel => exact ⟨u + 1, _, by omega, by go_num, rfl⟩
                                    case measure => simp [intOf]; omega
                              · go_wp2
                                go_roundw
                                case rel => exact ⟨s + 1, _, by omega, by go_num, rfl⟩
                                case measure => simp [intOf]; omega
                          · have hqe : ((S q : Int) == (A : Int)) = false := beq_eq_false_iff_ne.2 (by omega)
                            have HQ : Hid (¬ S q = A) := hqA
                            clear hqA
                            go_wp2
                            go_round
                            case rel =>
                              refine ⟨q + 1, by omega, by go_num, fun j hj => ?_⟩
                              by_cases e : j = q
                              · subst e; exact HQ.out
                              · exact hno.out j (by omega)
                            case measure => simp [intOf]; omega
                        · exfalso
                          obtain ⟨j, hj, e⟩ := HAJ.out
                          exact hno.out j (by omega) e
                    · have hne : ((A : Int) != (S s : Int)) = true := by rw [bne_iff_ne]; omega
                      clear hAi
                      go_wp2
                      go_quiet ((go_at_call 13; exact quiet_at (equal_any _ b1 b2 l1 l2)))
                      go_wp2
                      go_loop [15, 16] (fun asked ji => ∃ q : Nat, q ≤ s + 1 ∧ ji = .int .i64 q ∧ asked = .bool false ∧ Hid (∀ j, j < q → S j ≠ A)) (fun _ ji => s + 1 - (intOf ji).toNat)
                      case atStart => exact ⟨0, by omega, rfl, rfl, fun j h => absurd h (by omega)⟩
                      case round =>
                        obtain ⟨q, hq, rfl, rfl, hno⟩ := hrel
                        by_cases hqs : q ≤ s
                        · have cq := hscr.out q (by omega)
                          by_cases hqA : S q = A
                          · have hqe : ((S q : Int) == (A : Int)) = true := by rw [hqA]; simp
                            clear hqA
                            go_wp2
                            clear hqe cq hno
                            go_loopw [17] (fun ui wq => ∃ u m : Nat, u ≤ s ∧ ui = .int .i64 u ∧ wq = wr.drewN m) (fun ui _ => s - (intOf ui).toNat)
                            case atStart => exact ⟨0, _, by omega, rfl, rfl⟩
                            case round =>
                              obtain ⟨u, m, hu, rfl, hwq⟩ := hrel
                              subst hwq
                              by_cases hus : u < s
                              · have cu := hscr.out u (by omega)
                                have au := hans.out u (by omega)
                                have hiu := BA.ins u (by omega)
                                by_cases huv : S u = S s
                                · have huq : ((S u : Int) == (S s : Int)) = true := by rw [huv]; simp
                                  have hsame : ((ans T S u : Int) != (A : Int)) = false := by rw [← HA.out, ans_same T S u s hus (by rw [huv])]; simp
                                  clear huv
                                  go_wp2
                                  go_quiet (fail)
                                  go_wp2
                                  go_roundw
                                  case rel => exact ⟨s + 1, _, by omega, by go_num, rfl⟩
                                  case measure => simp [intOf]; omega
                                · have huq : ((S u : Int) == (S s : Int)) = false := beq_eq_false_iff_ne.2 (by omega)
                                  obtain ⟨au', cu', hvu⟩ := (BA.texts (S u) hiu).slice
                                  have k3 : wr.cell? ⟨gi, S u, none⟩ = some (.slice au' (T (S u)).length cu') := by rw [← hvu]; exact (HF.out.below.cell (p := ⟨gi, S u, none⟩) (hbl _ hiu)).trans (BA.info _ hiu)
                                  have b3 : Bts 0 wr (.slice au' (T (S u)).length cu') (T (S u)) := by rw [← hvu]; exact (BA.texts _ hiu).mono (C := gp + 1) (by omega) HF.out.below
                                  have l3 := BA.stat.lens (S u) hiu
                                  clear hvu huv
                                  by_cases hT : T (S u) = T (S s)
                                  · have hTu : (T (S u) == T (S s)) = true := by rw [hT]; simp
                                    have hsame : ((ans T S u : Int) != (A : Int)) = false := by rw [← HA.out, ans_same T S u s hus hT]; simp
                                    clear hT
                                    go_wp2
                                    go_quiet ((go_at_call 13; exact quiet_at (equal_any _ b3 b2 l3 l2)))
                                    go_wp2
                                    go_roundw
                                    case rel => exact ⟨s + 1, _, by omega, by go_num, rfl⟩
                                    case measure => simp [intOf]; omega
                                  · have hTu : (T (S u) == T (S s)) = false := beq_eq_false_iff_ne.2 hT
                                    clear hT
                                    go_wp2
                                    go_quiet ((go_at_call 13; exact quiet_at (equal_any _ b3 b2 l3 l2)))
                                    go_wp2
                                    go_roundw
                                    case rel => exact ⟨u + 1, _, by omega, by go_num, rfl⟩
                                    case measure => simp [intOf]; omega
                              · go_wp2
                                go_roundw
                                case rel => exact ⟨s + 1, _, by omega, by go_num, rfl⟩
                                case measure => simp [intOf]; omega
                          · have hqe : ((S q : Int) == (A : Int)) = false := beq_eq_false_iff_ne.2 (by omega)
                            have HQ : Hid (¬ S q = A) := hqA
                            clear hqA
                            go_wp2
                            go_round
                            case rel =>
                              refine ⟨q + 1, by omega, by go_num, fun j hj => ?_⟩
                              by_cases e : j = q
                              · subst e; exact HQ.out
                              · exact hno.out j (by omega)
                            case measure => simp [intOf]; omega
                        · exfalso
                          obtain ⟨j, hj, e⟩ := HAJ.out
                          exact hno.out j (by omega) e
                  · go_wp2
                    go_ret
                    refine ⟨rfl, HB.out.trans ((HF.out.drewN n).below.mono ?_)⟩
                    have := HB.out.size
                    omega
end Go.Proofs.Qxb6605465a
