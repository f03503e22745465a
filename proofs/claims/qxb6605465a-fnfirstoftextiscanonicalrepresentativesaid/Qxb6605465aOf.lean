import Derived.Test.Qxb6605465aText
namespace Go.Proofs.Qxb6605465a
open Go.RowKit Go.Maps
open Go.ChangeMaps (setBlock heap_setBlock_other)

theorem key46 : Keyed Try.prog 9 := string_keyed Try.underlying9
theorem key47 : Keyed Try.prog 22 := int_keyed Try.underlying22
theorem zero22 (w : World) : (zeroValue 22).run Try.prog w = .ok (.int .u16 0) w := by kernel_rfl

theorem wf16 (i : Nat) (h : i ≤ 65535) : (Lit.int .u16 (i : Int)).wf = true :=
  WalkArith.wf_u16 (by omega)

/-- w' is w but for the blocks b1 and b2. -/
structure Turn2 (w w' : World) (b1 b2 : Nat) : Prop where
  os : w'.os = w.os
  tape : w'.tape = w.tape
  output : w'.output = w.output
  size : w'.heap.size = w.heap.size
  block : ∀ k, k ≠ b1 → k ≠ b2 → w'.heap[k]? = w.heap[k]?

set_option maxHeartbeats 400000 in
/-- The index is known. -/
theorem of_hit (w : World) (gf i b2 n c : Nat) (D2 : DataW Unit) (hi : i ≤ 65535) (c2 : w.cell? ⟨gf, 2, none⟩ = some (.map (some b2)))
    (own2 : w.ownsMap Try.prog 22 (plainElem Try.prog 22) b2 n D2) (h2 : Maps.has D2 (.int .u16 i) = true) (hat : D2.atKey (.int .u16 i) (.lit (.int .u16 0)) = .lit (.int .u16 c)) :
    Calls Try.prog 17 #[.pointer (some ⟨gf, 0, none⟩), .int .u16 i] w fun e w' => e = .returned (.int .u16 c) ∧ w = w' := by
  obtain ⟨v, ps, hrun, hv⟩ := own2.look_ok key47 Try.underlying47 (zero22 w) (plainElem_int Try.underlying22 (by decide)) (keyOf_int_mk Try.underlying22 (wf16 i hi))
  rw [hat] at hv
  obtain ⟨c', rfl, hc, _⟩ := plainElem_int_inv Try.underlying22 hv
  simp only [Prod.mk.injEq, DataW.lit.injEq, Lit.int.injEq, true_and] at hc
  obtain ⟨hc, _⟩ := hc
  rw [h2] at hrun
  rw [hc]
  clear hv hat hc own2 h2
  go_enter Try.func17, Try.ntmps17
  go_wp2
  go_ret
  exact ⟨rfl, rfl⟩

theorem owns_drewN {P : Program} {k : TypeId} {R : Value → Option (DataW Unit × List MemPlace)} {w : World} {b n : Nat} {D : DataW Unit} (h : w.ownsMap P k R b n D) (m : Nat) : (w.drewN m).ownsMap P k R b n D := by
  obtain ⟨es, clock, hb, r⟩ := h
  exact ⟨es, clock, by rw [World.heap_drewN]; exact hb, r⟩

/-- A look-up that finds nothing. -/
theorem look_miss {w : World} {t k b n : Nat} {D : DataW Unit} (own : w.ownsMap Try.prog k (plainElem Try.prog 22) b n D) (K : Keyed Try.prog k) (ht : Try.prog.underlying t = some (.map k 22)) {key : Value} {kl : Lit} (hkey : keyOf Try.prog k key = some kl) (h : Maps.has D kl = false) :
    (Instr.lookup t (.map (some b)) key true).run Try.prog w = .ok (.tuple #[.int .u16 0, .bool false]) w := by
  obtain ⟨v, ps, hrun, hv⟩ := own.look_ok K ht (zero22 w) (plainElem_int Try.underlying22 (by decide)) hkey
  rw [Maps.atKey_of_not_has h] at hv
  obtain ⟨c, rfl, hc, _⟩ := plainElem_int_inv Try.underlying22 hv
  simp only [Prod.mk.injEq, DataW.lit.injEq, Lit.int.injEq, true_and] at hc
  rw [h, ← hc.1] at hrun
  exact hrun

/-- A look-up that finds c. -/
theorem look_hit {w : World} {t k b n : Nat} {c : Int} {D : DataW Unit} (own : w.ownsMap Try.prog k (plainElem Try.prog 22) b n D) (K : Keyed Try.prog k) (ht : Try.prog.underlying t = some (.map k 22)) {key : Value} {kl : Lit} (hkey : keyOf Try.prog k key = some kl) (h : Maps.has D kl = true)
    (hat : D.atKey kl (.lit (.int .u16 0)) = .lit (.int .u16 c)) :
    (Instr.lookup t (.map (some b)) key true).run Try.prog w = .ok (.tuple #[.int .u16 c, .bool true]) w := by
  obtain ⟨v, ps, hrun, hv⟩ := own.look_ok K ht (zero22 w) (plainElem_int Try.underlying22 (by decide)) hkey
  rw [hat] at hv
  obtain ⟨c', rfl, hc, _⟩ := plainElem_int_inv Try.underlying22 hv
  simp only [Prod.mk.injEq, DataW.lit.injEq, Lit.int.injEq, true_and] at hc
  rw [h, ← hc.1] at hrun
  exact hrun

theorem cell_turned {w w' : World} {b : Nat} (h : w.mapTurned w' b) {a : Addr} (ha : a.block ≠ b) : w'.cell? a = w.cell? a := by
  obtain ⟨es, clock, es', clock', hb, rfl⟩ := h
  exact World.cell?_of_block (heap_setBlock_other hb _ ha)

theorem size_turned {w w' : World} {b : Nat} (h : w.mapTurned w' b) : w'.heap.size = w.heap.size := by
  obtain ⟨es, clock, es', clock', hb, rfl⟩ := h
  simp [setBlock]

theorem turned_block {w w' : World} {b : Nat} (h : w.mapTurned w' b) (k : Nat) (hk : k ≠ b) : w'.heap[k]? = w.heap[k]? := by
  obtain ⟨es, clock, es', clock', hb, rfl⟩ := h
  exact heap_setBlock_other hb _ hk

theorem Turn2.of {w w1 w2 : World} {m b1 b2 : Nat} (h1 : (w.drewN m).mapTurned w1 b1) (h2 : w1.mapTurned w2 b2) : Turn2 w w2 b1 b2 := by
  have g1 := h1.grown
  have g2 := h2.grown
  exact ⟨(g2.os.trans g1.os).trans rfl, (g2.tape.trans g1.tape).trans rfl, (g2.output.trans g1.output).trans rfl, by rw [size_turned h2, size_turned h1]; simp,
    fun k e1 e2 => by rw [turned_block h2 k e2, turned_block h1 k e1]; simp⟩

set_option maxHeartbeats 400000 in
/-- Neither the index nor the text is known. -/
theorem of_new {B : Nat} (w : World) (gf gp N i b1 b2 n cap : Nat) (a : Option Addr) (l : List UInt8) (D1 D2 : DataW Unit) (hi : i ≤ 65535) (hiN : i < N) (c0 : w.cell? ⟨gf, 0, none⟩ = some (.slice (some ⟨gp, 0, none⟩) N N)) (c1 : w.cell? ⟨gf, 1, none⟩ = some (.map (some b1))) (c2 : w.cell? ⟨gf, 2, none⟩ = some (.map (some b2)))
    (hp1 : w.cell? ⟨gp, i * 6 + 1, none⟩ = some (.slice a l.length cap)) (hp2 : w.cell? ⟨gp, i * 6 + 2, none⟩ = some (.string ⟨#[]⟩)) (hb : Bts B w (.slice a l.length cap) l) (hl : l.length ≤ 1048576)
    (own1 : w.ownsMap Try.prog 9 (plainElem Try.prog 22) b1 n D1) (own2 : w.ownsMap Try.prog 22 (plainElem Try.prog 22) b2 n D2) (hn : n < 65536) (hb12 : b1 ≠ b2) (hg1 : gf ≠ b1) (hg2 : gf ≠ b2)
    (h1 : Maps.has D1 (.string l) = false) (h2 : Maps.has D2 (.int .u16 i) = false) :
    Calls Try.prog 17 #[.pointer (some ⟨gf, 0, none⟩), .int .u16 i] w fun e w' => e = .returned (.int .u16 i) ∧ Turn2 w w' b1 b2 ∧
      w'.ownsMap Try.prog 9 (plainElem Try.prog 22) b1 (n + 1) (D1.put (.string l) (.lit (.int .u16 i))) ∧ w'.ownsMap Try.prog 22 (plainElem Try.prog 22) b2 (n + 1) (D2.put (.int .u16 i) (.lit (.int .u16 i))) := by
  have hk1 : keyOf Try.prog 9 (.string ⟨l.toArray⟩) = some (.string l) := WideMaps.keyOf_string_mk Try.underlying9 (s := ⟨l.toArray⟩) (by simp [ByteArray.size]; unfold maxLen; omega)
  have hk2 := keyOf_int_mk Try.underlying22 (wf16 i hi)
  have r2 := look_miss own2 key47 Try.underlying47 hk2 h2
  have q47 : ∀ (w : World) (r : Option Nat), (binOp .eql 47 (.map r) (.map none)).run Try.prog w = .ok (.bool r.isNone) w := fun w r => run_eql_map_nil w _ _ _ r Try.underlying47
  have O1 : Hid _ := own1
  have O2 : Hid _ := own2
  clear own1 own2
  go_enter Try.func17, Try.ntmps17
  go_wp2_with fail
  refine (text_any _ gp (i * 6) a cap l hp2 hp1 hb hl).mono ?_
  rintro e w1 ⟨rfl, m, rfl⟩
  have r1 := look_miss (owns_drewN O1.out m) key46 Try.underlying46 hk1 h1
  obtain ⟨w2, u1, own1', t1⟩ := (owns_drewN O1.out m).store key46 Try.underlying46 (by unfold maxLen; omega) hk1 (plainElem_int Try.underlying22 (wf16 i hi))
  have own2m := (owns_drewN O2.out m).kept t1.grown (by simp; omega)
  obtain ⟨w3, u2, own2', t2⟩ := own2m.store key47 Try.underlying47 (by unfold maxLen; omega) hk2 (plainElem_int Try.underlying22 (wf16 i hi))
  have e2 : w2.cell? ⟨gf, 2, none⟩ = some (.map (some b2)) := by rw [cell_turned t1 hg1]; simpa using c2
  have E : Hid _ := Turn2.of t1 t2
  have E1 : Hid _ := own1'.kept t2.grown (by simp; omega)
  have E2 : Hid _ := own2'
  clear t1 t2 own1' own2' own2m hb
  go_wp2
  go_ret
  exact ⟨rfl, E.out, E1.out, E2.out⟩

set_option maxHeartbeats 400000 in
/-- The index is not known, the text is. -/
theorem of_text {B : Nat} (w : World) (gf gp N i b1 b2 n cap c : Nat) (a : Option Addr) (l : List UInt8) (D1 D2 : DataW Unit) (hi : i ≤ 65535) (hc : c ≤ 65535) (hiN : i < N) (c0 : w.cell? ⟨gf, 0, none⟩ = some (.slice (some ⟨gp, 0, none⟩) N N)) (c1 : w.cell? ⟨gf, 1, none⟩ = some (.map (some b1))) (c2 : w.cell? ⟨gf, 2, none⟩ = some (.map (some b2)))
    (hp1 : w.cell? ⟨gp, i * 6 + 1, none⟩ = some (.slice a l.length cap)) (hp2 : w.cell? ⟨gp, i * 6 + 2, none⟩ = some (.string ⟨#[]⟩)) (hb : Bts B w (.slice a l.length cap) l) (hl : l.length ≤ 1048576)
    (own1 : w.ownsMap Try.prog 9 (plainElem Try.prog 22) b1 n D1) (own2 : w.ownsMap Try.prog 22 (plainElem Try.prog 22) b2 n D2) (hn : n < 65536) (hb12 : b1 ≠ b2)
    (h1 : Maps.has D1 (.string l) = true) (hat : D1.atKey (.string l) (.lit (.int .u16 0)) = .lit (.int .u16 c)) (h2 : Maps.has D2 (.int .u16 i) = false) :
    Calls Try.prog 17 #[.pointer (some ⟨gf, 0, none⟩), .int .u16 i] w fun e w' => e = .returned (.int .u16 c) ∧ Turn2 w w' b1 b2 ∧
      w'.ownsMap Try.prog 9 (plainElem Try.prog 22) b1 n D1 ∧ w'.ownsMap Try.prog 22 (plainElem Try.prog 22) b2 (n + 1) (D2.put (.int .u16 i) (.lit (.int .u16 c))) := by
  have hk1 : keyOf Try.prog 9 (.string ⟨l.toArray⟩) = some (.string l) := WideMaps.keyOf_string_mk Try.underlying9 (s := ⟨l.toArray⟩) (by simp [ByteArray.size]; unfold maxLen; omega)
  have hk2 := keyOf_int_mk Try.underlying22 (wf16 i hi)
  have r2 := look_miss own2 key47 Try.underlying47 hk2 h2
  have q47 : ∀ (w : World) (r : Option Nat), (binOp .eql 47 (.map r) (.map none)).run Try.prog w = .ok (.bool r.isNone) w := fun w r => run_eql_map_nil w _ _ _ r Try.underlying47
  have O1 : Hid _ := own1
  have O2 : Hid _ := own2
  have HA : Hid _ := hat
  clear own1 own2 hat
  go_enter Try.func17, Try.ntmps17
  go_wp2_with fail
  refine (text_any _ gp (i * 6) a cap l hp2 hp1 hb hl).mono ?_
  rintro e w1 ⟨rfl, m, rfl⟩
  have r1 := look_hit (owns_drewN O1.out m) key46 Try.underlying46 hk1 h1 HA.out
  obtain ⟨w3, u2, own2', t2⟩ := (owns_drewN O2.out m).store key47 Try.underlying47 (by unfold maxLen; omega) hk2 (plainElem_int Try.underlying22 (wf16 c hc))
  have E : Hid (Turn2 w w3 b1 b2) := ⟨t2.grown.os.trans rfl, t2.grown.tape.trans rfl, t2.grown.output.trans rfl, by rw [size_turned t2]; simp, fun k _ e2 => by rw [turned_block t2 k e2]; simp⟩
  have E1 : Hid _ := (owns_drewN O1.out m).kept t2.grown (by simp; omega)
  have E2 : Hid _ := own2'
  clear t2 own2' hb
  go_wp2
  go_ret
  exact ⟨rfl, E.out, E1.out, E2.out⟩

/-- What the first ask leaves. -/
structure Born (w w' : World) (gf : Nat) (l : List UInt8) (i : Nat) : Prop where
  os : w'.os = w.os
  tape : w'.tape = w.tape
  output : w'.output = w.output
  size : w'.heap.size = w.heap.size + 2
  block : ∀ k, k < w.heap.size → k ≠ gf → w'.heap[k]? = w.heap[k]?
  c0 : w'.cell? ⟨gf, 0, none⟩ = w.cell? ⟨gf, 0, none⟩
  c1 : w'.cell? ⟨gf, 1, none⟩ = some (.map (some w.heap.size))
  c2 : w'.cell? ⟨gf, 2, none⟩ = some (.map (some (w.heap.size + 1)))
  own1 : w'.ownsMap Try.prog 9 (plainElem Try.prog 22) w.heap.size 1 ((DataW.map [] : DataW Unit).put (.string l) (.lit (.int .u16 i)))
  own2 : w'.ownsMap Try.prog 22 (plainElem Try.prog 22) (w.heap.size + 1) 1 ((DataW.map [] : DataW Unit).put (.int .u16 i) (.lit (.int .u16 i)))

/-- The world behind the making of the two maps, as the walk spells it. -/
def bornW (w : World) (gf : Nat) : World := (((w.setCell ⟨gf, 1, none⟩ (.map (some w.heap.size))).setCell ⟨gf, 2, none⟩ (.map (some (w.heap.size + 1)))).alloc (.map #[] 0)).alloc (.map #[] 0)

theorem bornW_block (w : World) (gf k : Nat) (hk : k < w.heap.size) (hg : k ≠ gf) : (bornW w gf).heap[k]? = w.heap[k]? := by
  unfold bornW
  rw [Below.heap_alloc _ _ _ (by simp [World.setCell]; omega), Below.heap_alloc _ _ _ (by simp [World.setCell]; omega), Below.heap_setCell _ _ _ _ hg, Below.heap_setCell _ _ _ _ hg]

theorem bornW_cell (w : World) (gf : Nat) (a : Addr) (ha : a.block < w.heap.size) : (bornW w gf).cell? a = ((w.setCell ⟨gf, 1, none⟩ (.map (some w.heap.size))).setCell ⟨gf, 2, none⟩ (.map (some (w.heap.size + 1)))).cell? a := by
  unfold bornW
  exact World.cell?_of_block (by rw [Below.heap_alloc _ _ _ (by simp [World.setCell]; omega), Below.heap_alloc _ _ _ (by simp [World.setCell]; omega)])

theorem bornW_size (w : World) (gf : Nat) : (bornW w gf).heap.size = w.heap.size + 2 := by
  simp [bornW, World.setCell, World.alloc]

theorem bornW_own1 (w : World) (gf : Nat) : (bornW w gf).ownsMap Try.prog 9 (plainElem Try.prog 22) w.heap.size 0 (.map [] : DataW Unit) := by
  unfold bornW
  have h := World.ownsMap_made ((w.setCell ⟨gf, 1, none⟩ (.map (some w.heap.size))).setCell ⟨gf, 2, none⟩ (.map (some (w.heap.size + 1)))) Try.prog 9 (plainElem (H := Unit) Try.prog 22)
  have e : ((w.setCell ⟨gf, 1, none⟩ (.map (some w.heap.size))).setCell ⟨gf, 2, none⟩ (.map (some (w.heap.size + 1)))).heap.size = w.heap.size := by simp [World.setCell]
  rw [e] at h
  exact h.alloc _

theorem bornW_own2 (w : World) (gf : Nat) : (bornW w gf).ownsMap Try.prog 22 (plainElem Try.prog 22) (w.heap.size + 1) 0 (.map [] : DataW Unit) := by
  unfold bornW
  have h := World.ownsMap_made (((w.setCell ⟨gf, 1, none⟩ (.map (some w.heap.size))).setCell ⟨gf, 2, none⟩ (.map (some (w.heap.size + 1)))).alloc (.map #[] 0)) Try.prog 22 (plainElem (H := Unit) Try.prog 22)
  have e : (((w.setCell ⟨gf, 1, none⟩ (.map (some w.heap.size))).setCell ⟨gf, 2, none⟩ (.map (some (w.heap.size + 1)))).alloc (.map #[] 0)).heap.size = w.heap.size + 1 := by simp [World.setCell, World.alloc]
  rw [e] at h
  exact h

theorem has_empty (k : Lit) : Maps.has (DataW.map [] : DataW Unit) k = false := rfl

set_option maxHeartbeats 400000 in
/-- The first ask of all. -/
theorem of_nil (w : World) (gf gp N i cap : Nat) (a : Option Addr) (l : List UInt8) (hi : i ≤ 65535) (hiN : i < N) (c0 : w.cell? ⟨gf, 0, none⟩ = some (.slice (some ⟨gp, 0, none⟩) N N)) (c1 : w.cell? ⟨gf, 1, none⟩ = some (.map none)) (c2 : w.cell? ⟨gf, 2, none⟩ = some (.map none))
    (f1 : w.frozen? ⟨gf, 1, none⟩ = false) (f2 : w.frozen? ⟨gf, 2, none⟩ = false) (hgp : gp < gf)
    (hp1 : w.cell? ⟨gp, i * 6 + 1, none⟩ = some (.slice a l.length cap)) (hp2 : w.cell? ⟨gp, i * 6 + 2, none⟩ = some (.string ⟨#[]⟩)) (hb : ∀ W, Below gf w W → Bts 0 W (.slice a l.length cap) l) (hl : l.length ≤ 1048576) :
    Calls Try.prog 17 #[.pointer (some ⟨gf, 0, none⟩), .int .u16 i] w fun e w' => e = .returned (.int .u16 i) ∧ Born w w' gf l i := by
  have hk1 : keyOf Try.prog 9 (.string ⟨l.toArray⟩) = some (.string l) := WideMaps.keyOf_string_mk Try.underlying9 (s := ⟨l.toArray⟩) (by simp [ByteArray.size]; unfold maxLen; omega)
  have hk2 := keyOf_int_mk Try.underlying22 (wf16 i hi)
  have r2 := Maps.look_nil (w := w) true key47 Try.underlying47 (zero22 w) hk2
  have q47 : ∀ (w : World) (r : Option Nat), (binOp .eql 47 (.map r) (.map none)).run Try.prog w = .ok (.bool r.isNone) w := fun w r => run_eql_map_nil w _ _ _ r Try.underlying47
  have hmm := @run_makeMap Try.prog
  have hgl : gf < w.heap.size := block_lt_of_cell c0
  have hgl2 : gp < w.heap.size := by omega
  have B0 : Hid (∀ k, k < w.heap.size → k ≠ gf → (bornW w gf).heap[k]? = w.heap[k]?) := bornW_block w gf
  have B1 : Hid ((bornW w gf).heap.size = w.heap.size + 2) := bornW_size w gf
  have B2 : Hid ((bornW w gf).ownsMap Try.prog 9 (plainElem Try.prog 22) w.heap.size 0 (.map [] : DataW Unit)) := bornW_own1 w gf
  have B3 : Hid ((bornW w gf).ownsMap Try.prog 22 (plainElem Try.prog 22) (w.heap.size + 1) 0 (.map [] : DataW Unit)) := bornW_own2 w gf
  have B4 : Hid ((bornW w gf).cell? ⟨gf, 0, none⟩ = some (.slice (some ⟨gp, 0, none⟩) N N)) := by
    show (bornW w gf).cell? ⟨gf, 0, none⟩ = _
    rw [bornW_cell w gf _ hgl, World.cell?_setCell_other _ _ _ _ (by simp), World.cell?_setCell_other _ _ _ _ (by simp)]; exact c0
  have B5 : Hid ((bornW w gf).cell? ⟨gf, 1, none⟩ = some (.map (some w.heap.size))) := by
    show (bornW w gf).cell? ⟨gf, 1, none⟩ = _
    rw [bornW_cell w gf _ hgl, World.cell?_setCell_other _ _ _ _ (by simp)]; exact World.cell?_setCell_same _ _ _ c1
  have B6 : Hid ((bornW w gf).cell? ⟨gf, 2, none⟩ = some (.map (some (w.heap.size + 1)))) := by
    show (bornW w gf).cell? ⟨gf, 2, none⟩ = _
    rw [bornW_cell w gf _ hgl]; exact World.cell?_setCell_same _ _ _ ((World.cell?_setCell_other _ _ _ _ (by simp)).trans c2)
  have B7 : Hid (Bts 0 (bornW w gf) (.slice a l.length cap) l) := hb _ ⟨rfl, rfl, rfl, by rw [bornW_size]; omega, fun k hk => bornW_block w gf k (by omega) (by omega)⟩
  have B8 : Hid ((bornW w gf).cell? ⟨gp, i * 6 + 1, none⟩ = some (.slice a l.length cap)) := (World.cell?_of_block (bornW_block w gf gp hgl2 (by omega))).trans hp1
  have B9 : Hid ((bornW w gf).cell? ⟨gp, i * 6 + 2, none⟩ = some (.string ⟨#[]⟩)) := (World.cell?_of_block (bornW_block w gf gp hgl2 (by omega))).trans hp2
  have B10 : Hid ((bornW w gf).os = w.os ∧ (bornW w gf).tape = w.tape ∧ (bornW w gf).output = w.output) := ⟨rfl, rfl, rfl⟩
  clear hb
  go_enter Try.func17, Try.ntmps17
  go_wp2_with fail
  change Calls Try.prog 19 _ (bornW w gf) _
  generalize bornW w gf = W at *
  have d0 := B4.out
  have d1 := B5.out
  have d2 := B6.out
  refine (text_any W gp (i * 6) a cap l B9.out B8.out B7.out hl).mono ?_
  rintro e w1 ⟨rfl, m, rfl⟩
  have r1 := look_miss (owns_drewN B2.out m) key46 Try.underlying46 hk1 (has_empty _)
  obtain ⟨w2, u1, own1', t1⟩ := (owns_drewN B2.out m).store key46 Try.underlying46 (by unfold maxLen; omega) hk1 (plainElem_int Try.underlying22 (wf16 i hi))
  have own2m := (owns_drewN B3.out m).kept t1.grown (by simp)
  obtain ⟨w3, u2, own2', t2⟩ := own2m.store key47 Try.underlying47 (by unfold maxLen; omega) hk2 (plainElem_int Try.underlying22 (wf16 i hi))
  have hg1 : gf ≠ w.heap.size := by omega
  have hg2 : gf ≠ w.heap.size + 1 := by omega
  have e2 : w2.cell? ⟨gf, 2, none⟩ = some (.map (some (w.heap.size + 1))) := by rw [cell_turned t1 hg1]; simpa using d2
  have T : Turn2 W w3 w.heap.size (w.heap.size + 1) := Turn2.of t1 t2
  have E : Hid (Born w w3 gf l i) :=
    ⟨T.os.trans B10.out.1, T.tape.trans B10.out.2.1, T.output.trans B10.out.2.2, T.size.trans B1.out, fun k hk hg => (T.block k (by omega) (by omega)).trans (B0.out k hk hg),
      by rw [World.cell?_of_block (w := W) (a := ⟨gf, 0, none⟩) (T.block gf hg1 hg2), d0, c0], by rw [World.cell?_of_block (w := W) (a := ⟨gf, 1, none⟩) (T.block gf hg1 hg2), d1], by rw [World.cell?_of_block (w := W) (a := ⟨gf, 2, none⟩) (T.block gf hg1 hg2), d2],
      own1'.kept t2.grown (by simp), own2'⟩
  clear T t1 t2 own1' own2' own2m
  go_wp2
  go_ret
  exact ⟨rfl, E.out⟩
end Go.Proofs.Qxb6605465a
