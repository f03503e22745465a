import Derived.Test.Qxb6605465aOf
namespace Go.Proofs.Qxb6605465a
open Go.RowKit Go.Maps

/-! ### The plain side: asks, in order -/

/-- The first of the asked indices whose text is that of i; i itself where there is none. -/
def firstOf (T : Nat → List UInt8) (asked : List Nat) (i : Nat) : Nat := (asked.find? (fun j => T j == T i)).getD i

/-- byText: by each text the first asked index that has it. -/
def Inv1 (T : Nat → List UInt8) (asked : List Nat) (D : DataW Unit) : Prop :=
  IsMap D ∧ ∀ l : List UInt8, Maps.has D (.string l) = asked.any (fun j => T j == l) ∧ ∀ j, asked.find? (fun j => T j == l) = some j → D.atKey (.string l) (.lit (.int .u16 0)) = .lit (.int .u16 (j : Int))

/-- byIndex: by each asked index the first asked one of the same text. -/
def Inv2 (T : Nat → List UInt8) (asked : List Nat) (D : DataW Unit) : Prop :=
  IsMap D ∧ ∀ i : Nat, Maps.has D (.int .u16 (i : Int)) = asked.contains i ∧ (i ∈ asked → D.atKey (.int .u16 (i : Int)) (.lit (.int .u16 0)) = .lit (.int .u16 (firstOf T asked i : Int)))

theorem keyS (l : List UInt8) : WideAt.IsKeyLit (.string l) := trivial
theorem keyI (i : Nat) : WideAt.IsKeyLit (.int .u16 (i : Int)) := trivial

theorem firstOf_stable (T : Nat → List UInt8) (asked : List Nat) (i x : Nat) (h : ∃ j ∈ asked, T j = T i) : firstOf T (asked ++ [x]) i = firstOf T asked i := by
  unfold firstOf
  rw [List.find?_append]
  cases e : asked.find? (fun j => T j == T i) with
  | some j => rfl
  | none =>
    obtain ⟨j, hj, ht⟩ := h
    have := List.find?_eq_none.1 e j hj
    simp [ht] at this

theorem firstOf_new (T : Nat → List UInt8) (asked : List Nat) (i : Nat) (h : asked.any (fun j => T j == T i) = false) : firstOf T asked i = i := by
  unfold firstOf
  rw [List.find?_eq_none.2 (fun j hj => by
    have := List.any_eq_false.1 h j hj
    simpa using this)]
  rfl

theorem firstOf_snoc (T : Nat → List UInt8) (asked : List Nat) (i : Nat) : firstOf T (asked ++ [i]) i = firstOf T asked i := by
  unfold firstOf
  rw [List.find?_append]
  cases e : asked.find? (fun j => T j == T i) with
  | some j => rfl
  | none => simp

theorem firstOf_some (T : Nat → List UInt8) (asked : List Nat) (i : Nat) (h : asked.any (fun j => T j == T i) = true) : asked.find? (fun j => T j == T i) = some (firstOf T asked i) := by
  unfold firstOf
  cases e : asked.find? (fun j => T j == T i) with
  | some j => rfl
  | none =>
    obtain ⟨j, hj, ht⟩ := List.any_eq_true.1 h
    exact absurd ht (List.find?_eq_none.1 e j hj)

theorem firstOf_mem (T : Nat → List UInt8) (asked : List Nat) (i : Nat) (h : asked.any (fun j => T j == T i) = true) : firstOf T asked i ∈ asked ∧ T (firstOf T asked i) = T i := by
  have e := firstOf_some T asked i h
  exact ⟨List.mem_of_find?_eq_some e, by simpa using List.find?_some e⟩

/-- An ask of a known index turns nothing. -/
theorem Inv1.again {T : Nat → List UInt8} {asked : List Nat} {D : DataW Unit} (h : Inv1 T asked D) (i : Nat) (hi : asked.any (fun j => T j == T i) = true) : Inv1 T (asked ++ [i]) D := by
  refine ⟨h.1, fun l => ?_⟩
  obtain ⟨h1, h2⟩ := h.2 l
  by_cases e : T i = l
  · subst e
    refine ⟨by rw [h1, List.any_append, hi]; simp, fun j hj => h2 j ?_⟩
    rw [List.find?_append, firstOf_some T asked i hi] at hj
    rw [firstOf_some T asked i hi]
    simpa using hj
  · refine ⟨by rw [h1, List.any_append]; simp [e], fun j hj => h2 j ?_⟩
    rw [List.find?_append] at hj
    cases e2 : asked.find? (fun j => T j == l) with
    | some x => rw [e2] at hj; simpa using hj
    | none => rw [e2] at hj; simp [e] at hj

/-- A new text. -/
theorem Inv1.new {T : Nat → List UInt8} {asked : List Nat} {D : DataW Unit} (h : Inv1 T asked D) (i : Nat) (hi : asked.any (fun j => T j == T i) = false) : Inv1 T (asked ++ [i]) (D.put (.string (T i)) (.lit (.int .u16 (i : Int)))) := by
  refine ⟨h.1.put _ _, fun l => ?_⟩
  obtain ⟨h1, h2⟩ := h.2 l
  have hnone : asked.find? (fun j => T j == T i) = none := List.find?_eq_none.2 (fun j hj => by
    have := List.any_eq_false.1 hi j hj
    simpa using this)
  by_cases e : T i = l
  · subst e
    refine ⟨by rw [Maps.has_put_same h.1 (keyS _), List.any_append]; simp, fun j hj => ?_⟩
    rw [List.find?_append, hnone] at hj
    simp at hj
    subst hj
    exact Maps.atKey_put_same h.1 (keyS _) _ _
  · have hne : Lit.string l ≠ Lit.string (T i) := fun x => e (by injection x with x; exact x.symm)
    refine ⟨by rw [Maps.has_put_other hne, h1, List.any_append]; simp [e], fun j hj => ?_⟩
    rw [Maps.atKey_put_other hne]
    refine h2 j ?_
    rw [List.find?_append] at hj
    cases e2 : asked.find? (fun j => T j == l) with
    | some x => rw [e2] at hj; simpa using hj
    | none => rw [e2] at hj; simp [e] at hj

theorem Inv2.again {T : Nat → List UInt8} {asked : List Nat} {D : DataW Unit} (h : Inv2 T asked D) (i : Nat) (hi : i ∈ asked) : Inv2 T (asked ++ [i]) D := by
  refine ⟨h.1, fun x => ?_⟩
  obtain ⟨h1, h2⟩ := h.2 x
  refine ⟨?_, fun hx => ?_⟩
  · rw [h1]
    by_cases e : x = i
    · subst e; simp [hi]
    · simp [e]
  · have hx' : x ∈ asked := by
      rcases List.mem_append.1 hx with hx | hx
      · exact hx
      · simp at hx; subst hx; exact hi
    rw [firstOf_stable T asked x i ⟨x, hx', rfl⟩]
    exact h2 hx'

theorem Inv2.new {T : Nat → List UInt8} {asked : List Nat} {D : DataW Unit} (h : Inv2 T asked D) (i : Nat) (hi : i ∉ asked) : Inv2 T (asked ++ [i]) (D.put (.int .u16 (i : Int)) (.lit (.int .u16 (firstOf T asked i : Int)))) := by
  refine ⟨h.1.put _ _, fun x => ?_⟩
  obtain ⟨h1, h2⟩ := h.2 x
  by_cases e : x = i
  · subst e
    refine ⟨by rw [Maps.has_put_same h.1 (keyI _)]; simp, fun _ => ?_⟩
    rw [Maps.atKey_put_same h.1 (keyI _), firstOf_snoc]
  · have hne : Lit.int .u16 (x : Int) ≠ Lit.int .u16 (i : Int) := fun y => e (by injection y with _ y; omega)
    refine ⟨by rw [Maps.has_put_other hne, h1]; simp [e], fun hx => ?_⟩
    have hx' : x ∈ asked := by
      rcases List.mem_append.1 hx with hx | hx
      · exact hx
      · simp at hx; exact absurd hx e
    rw [Maps.atKey_put_other hne, firstOf_stable T asked x i ⟨x, hx', rfl⟩]
    exact h2 hx'

theorem Inv1.empty (T : Nat → List UInt8) : Inv1 T [] (.map []) := ⟨isMap_empty, fun _ => ⟨rfl, fun _ h => by simp at h⟩⟩
theorem Inv2.empty (T : Nat → List UInt8) : Inv2 T [] (.map []) := ⟨isMap_empty, fun _ => ⟨rfl, fun h => by simp at h⟩⟩

/-! ### The finder in memory -/

/-- What stands still: the pool at block gp, its texts; f's block gf is the first behind it. -/
structure Stat (wP : World) (gf gp N : Nat) (T : Nat → List UInt8) : Prop where
  top : gf = wP.heap.size
  pool : gp < gf
  info : ∀ k, k < N → ∃ a cap, wP.cell? ⟨gp, k * 6 + 1, none⟩ = some (.slice a (T k).length cap) ∧ Bts 0 wP (.slice a (T k).length cap) (T k)
  text : ∀ k, k < N → wP.cell? ⟨gp, k * 6 + 2, none⟩ = some (.string ⟨#[]⟩)
  lens : ∀ k, k < N → (T k).length ≤ 1048576
  many : N ≤ 65536

/-- The finder, behind the asks 'asked'. -/
structure FSt (wP : World) (gf gp N : Nat) (T : Nat → List UInt8) (asked : List Nat) (w : World) : Prop where
  below : Below gf wP w
  size : gf + 2 ≤ w.heap.size
  c0 : w.cell? ⟨gf, 0, none⟩ = some (.slice (some ⟨gp, 0, none⟩) N N)
  ins : ∀ j ∈ asked, j < N
  maps : (asked = [] ∧ w.cell? ⟨gf, 1, none⟩ = some (.map none) ∧ w.cell? ⟨gf, 2, none⟩ = some (.map none) ∧ w.frozen? ⟨gf, 1, none⟩ = false ∧ w.frozen? ⟨gf, 2, none⟩ = false) ∨
    ∃ b1 b2 D1 D2, w.cell? ⟨gf, 1, none⟩ = some (.map (some b1)) ∧ w.cell? ⟨gf, 2, none⟩ = some (.map (some b2)) ∧ gf + 2 ≤ b1 ∧ gf + 2 ≤ b2 ∧ b1 ≠ b2 ∧
      w.ownsMap Try.prog 9 (plainElem Try.prog 22) b1 asked.length D1 ∧ w.ownsMap Try.prog 22 (plainElem Try.prog 22) b2 asked.length D2 ∧ Inv1 T asked D1 ∧ Inv2 T asked D2

/-- A block that is neither below f's, nor f's, nor a map's, may turn. -/
theorem FSt.kept {wP : World} {gf gp N : Nat} {T : Nat → List UInt8} {asked : List Nat} {w w' : World} (h : FSt wP gf gp N T asked w) (x : Nat) (hx : x = gf + 1 ∨ w.heap.size ≤ x) (g : w.grownBy w' (some x)) : FSt wP gf gp N T asked w' := by
  have hs := h.size
  have keep : ∀ k, k < w.heap.size → k ≠ x → w'.heap[k]? = w.heap[k]? := fun k hk e => g.block k hk (fun y => e (by simpa using y))
  have gk := keep gf (by omega) (by omega)
  refine ⟨h.below.trans ⟨g.os, g.tape, g.output, g.size, fun k hk => keep k (by omega) (by omega)⟩, Nat.le_trans h.size g.size, (World.cell?_of_block (a := ⟨gf, 0, none⟩) gk).trans h.c0, h.ins, ?_⟩
  rcases h.maps with ⟨e, c1, c2, f1, f2⟩ | ⟨b1, b2, D1, D2, c1, c2, l1, l2, ne, o1, o2, i1, i2⟩
  · exact .inl ⟨e, (World.cell?_of_block (a := ⟨gf, 1, none⟩) gk).trans c1, (World.cell?_of_block (a := ⟨gf, 2, none⟩) gk).trans c2, (World.frozen?_of_block (a := ⟨gf, 1, none⟩) gk).trans f1, (World.frozen?_of_block (a := ⟨gf, 2, none⟩) gk).trans f2⟩
  · have := o1.lt
    have := o2.lt
    exact .inr ⟨b1, b2, D1, D2, (World.cell?_of_block (a := ⟨gf, 1, none⟩) gk).trans c1, (World.cell?_of_block (a := ⟨gf, 2, none⟩) gk).trans c2, l1, l2, ne, o1.kept g (by simp; omega), o2.kept g (by simp; omega), i1, i2⟩

theorem FSt.drewN {wP : World} {gf gp N : Nat} {T : Nat → List UInt8} {asked : List Nat} {w : World} (h : FSt wP gf gp N T asked w) (m : Nat) : FSt wP gf gp N T asked (w.drewN m) :=
  ⟨h.below.trans ⟨rfl, rfl, rfl, Nat.le_refl _, fun _ _ => rfl⟩, h.size, h.c0, h.ins, by
    rcases h.maps with h | ⟨b1, b2, D1, D2, c1, c2, l1, l2, ne, o1, o2, i1, i2⟩
    · exact .inl h
    · exact .inr ⟨b1, b2, D1, D2, c1, c2, l1, l2, ne, owns_drewN o1 m, owns_drewN o2 m, i1, i2⟩⟩

theorem ask_17 {wP : World} {gf gp N : Nat} {T : Nat → List UInt8} (S : Stat wP gf gp N T) {asked : List Nat} {w : World} (F : FSt wP gf gp N T asked w) (i : Nat) (hi : i < N) (hlen : asked.length < 65536) :
    Calls Try.prog 17 #[.pointer (some ⟨gf, 0, none⟩), .int .u16 i] w fun e w' => e = .returned (.int .u16 (firstOf T asked i : Int)) ∧ FSt wP gf gp N T (asked ++ [i]) w' ∧ w'.heap[gf + 1]? = w.heap[gf + 1]? := by
  have hN := S.many
  have htop := S.top
  have hpool := S.pool
  have hsz := F.size
  obtain ⟨a, cap, hc1, hB⟩ := S.info i hi
  have hp1 : w.cell? ⟨gp, i * 6 + 1, none⟩ = some (.slice a (T i).length cap) := (F.below.cell (p := ⟨gp, i * 6 + 1, none⟩) S.pool).trans hc1
  have hp2 : w.cell? ⟨gp, i * 6 + 2, none⟩ = some (.string ⟨#[]⟩) := (F.below.cell (p := ⟨gp, i * 6 + 2, none⟩) S.pool).trans (S.text i hi)
  have hBw : Bts 0 w (.slice a (T i).length cap) (T i) := hB.mono (C := gf) (by omega) F.below
  have ins' : ∀ j ∈ asked ++ [i], j < N := fun j hj => by
    rcases List.mem_append.1 hj with h | h
    · exact F.ins j h
    · simp at h; omega
  have turned : ∀ (b1 b2 : Nat) (D1 D2 : DataW Unit) (w' : World), w.cell? ⟨gf, 1, none⟩ = some (.map (some b1)) → w.cell? ⟨gf, 2, none⟩ = some (.map (some b2)) → gf + 2 ≤ b1 → gf + 2 ≤ b2 → b1 ≠ b2 → Turn2 w w' b1 b2 →
      w'.ownsMap Try.prog 9 (plainElem Try.prog 22) b1 (asked.length + 1) D1 → w'.ownsMap Try.prog 22 (plainElem Try.prog 22) b2 (asked.length + 1) D2 → Inv1 T (asked ++ [i]) D1 → Inv2 T (asked ++ [i]) D2 →
      FSt wP gf gp N T (asked ++ [i]) w' ∧ w'.heap[gf + 1]? = w.heap[gf + 1]? := by
    intro b1 b2 D1 D2 w' c1 c2 l1 l2 ne t o1 o2 i1 i2
    have gk := t.block gf (by omega) (by omega)
    refine ⟨⟨F.below.trans ⟨t.os, t.tape, t.output, by rw [t.size]; exact Nat.le_refl _, fun k hk => t.block k (by omega) (by omega)⟩, by rw [t.size]; exact F.size, (World.cell?_of_block (a := ⟨gf, 0, none⟩) gk).trans F.c0, ins', .inr ?_⟩, t.block _ (by omega) (by omega)⟩
    exact ⟨b1, b2, D1, D2, (World.cell?_of_block (a := ⟨gf, 1, none⟩) gk).trans c1, (World.cell?_of_block (a := ⟨gf, 2, none⟩) gk).trans c2, l1, l2, ne, by simpa using o1, by simpa using o2, i1, i2⟩
  rcases F.maps with ⟨rfl, c1, c2, f1, f2⟩ | ⟨b1, b2, D1, D2, c1, c2, l1, l2, ne, o1, o2, i1, i2⟩
  · refine (of_nil w gf gp N i cap a (T i) (by omega) hi F.c0 c1 c2 f1 f2 S.pool hp1 hp2 (fun W hW => hB.mono (C := gf) (by omega) (F.below.trans hW)) (S.lens i hi)).mono ?_
    rintro e w' ⟨rfl, b⟩
    refine ⟨rfl, ⟨F.below.trans ⟨b.os, b.tape, b.output, by rw [b.size]; omega, fun k hk => b.block k (by omega) (by omega)⟩, by rw [b.size]; omega, b.c0.trans F.c0, ins', .inr ?_⟩, b.block _ (by omega) (by omega)⟩
    refine ⟨_, _, _, _, b.c1, b.c2, by omega, by omega, by omega, b.own1, b.own2, ?_, ?_⟩
    · exact (Inv1.empty T).new i rfl
    · exact (Inv2.empty T).new i (by simp)
  · by_cases hm : i ∈ asked
    · have h2 := (i2.2 i).1
      have hc : asked.contains i = true := by simpa using hm
      rw [hc] at h2
      refine (of_hit w gf i b2 asked.length (firstOf T asked i) D2 (by omega) c2 o2 h2 ((i2.2 i).2 hm)).mono ?_
      rintro e w' ⟨rfl, rfl⟩
      have hany : asked.any (fun j => T j == T i) = true := List.any_eq_true.2 ⟨i, hm, by simp⟩
      exact ⟨rfl, ⟨F.below, F.size, F.c0, ins', .inr ⟨b1, b2, D1, D2, c1, c2, l1, l2, ne, o1.mono (by simp), o2.mono (by simp), i1.again i hany, i2.again i hm⟩⟩, rfl⟩
    · have h2 := (i2.2 i).1
      have hc : asked.contains i = false := by simpa using hm
      rw [hc] at h2
      have h1 := (i1.2 (T i)).1
      cases hany : asked.any (fun j => T j == T i)
      · rw [hany] at h1
        refine (of_new w gf gp N i b1 b2 asked.length cap a (T i) D1 D2 (by omega) hi F.c0 c1 c2 hp1 hp2 hBw (S.lens i hi) o1 o2 hlen ne (by omega) (by omega) h1 h2).mono ?_
        rintro e w' ⟨rfl, t, o1', o2'⟩
        have ef := firstOf_new T asked i hany
        have i2' := i2.new i hm
        rw [ef] at i2'
        exact ⟨by rw [ef], turned b1 b2 _ _ w' c1 c2 l1 l2 ne t o1' o2' (i1.new i hany) i2'⟩
      · rw [hany] at h1
        have hmem := firstOf_mem T asked i hany
        have := F.ins _ hmem.1
        refine (of_text w gf gp N i b1 b2 asked.length cap (firstOf T asked i) a (T i) D1 D2 (by omega) (by omega) hi F.c0 c1 c2 hp1 hp2 hBw (S.lens i hi) o1 o2 hlen ne h1 ((i1.2 (T i)).2 _ (firstOf_some T asked i hany)) h2).mono ?_
        rintro e w' ⟨rfl, t, o1', o2'⟩
        exact ⟨rfl, turned b1 b2 _ _ w' c1 c2 l1 l2 ne t (o1'.mono (by simp)) o2' (i1.again i hany) (i2.new i hm)⟩

set_option maxHeartbeats 400000 in
/-- ZZFirstOfTextOf (12). -/
theorem ask_any {wP : World} {gf gp N : Nat} {T : Nat → List UInt8} (S : Stat wP gf gp N T) {asked : List Nat} {w : World} (F : FSt wP gf gp N T asked w) (i : Nat) (hi : i < N) (hlen : asked.length < 65536) :
    Calls Try.prog 12 #[.pointer (some ⟨gf, 0, none⟩), .int .u16 i] w fun e w' => e = .returned (.int .u16 (firstOf T asked i : Int)) ∧ FSt wP gf gp N T (asked ++ [i]) w' ∧ w'.heap[gf + 1]? = w.heap[gf + 1]? := by
  go_enter Try.func12, Try.ntmps12
  go_wp2_with fail
  refine (ask_17 S F i hi hlen).mono ?_
  rintro e w1 ⟨rfl, h⟩
  go_wp2
  go_ret
  exact ⟨rfl, h⟩
end Go.Proofs.Qxb6605465a
