import Derived.Test.Qxb6605465aPre
import Derived.Deep.Matrix
import Derived.ShutString
import Derived.ChangeOld
import Derived.Below
namespace Go.Proofs.Qxb6605465a
open Go.ChangeShapes Go.WideShapes Go.ChangeAt Go.RowKit

/-- The bytes of a list of numbers. -/
def bytesOf (z : List Int) : List UInt8 := z.map (fun n => UInt8.ofNat n.toNat)

theorem byte_back (n : Int) (h : (Lit.int .u8 n).wf = true) : ((UInt8.ofNat n.toNat).toNat : Int) = n := by
  have := bounds_u8 h
  simp
  omega

theorem spot_none {w : World} {a : Addr} {v : Value} (h : w.cell? (a.add 0) = some v) : a = ⟨a.block, a.off, none⟩ := by
  obtain ⟨b, off, sp⟩ := a
  have : sp = none := by simpa [Addr.add] using World.cell?_spot h
  subst this
  rfl

/-- infos, opened. -/
theorem open_infos {H : Type} {enc : TypeId × Value → H} {W : World} {fuel : Nat} {av : Option Addr} {N cap : Nat} {x : DataW H × List MemPlace} (h : DataW.trod enc Try.prog W 0 (fun _ => true) true fuel 25 [.slice av N cap] = some x) :
    ∃ V T, Rows2 W av N cap V T := by
  rcases Deep.open_int_rows Try.underlying25 Try.underlying28 Try.underlying5 (by kernel_rfl) (by kernel_rfl) h with ⟨hcs, _⟩ | ⟨a, len, cp, A, L, C, Z, hcs, _, hl, hm, _, hr⟩
  · simp at hcs
    obtain ⟨rfl, rfl, rfl⟩ := hcs
    exact ⟨fun _ => undef, fun _ => [], fun _ => ⟨rfl, rfl⟩, fun h => absurd h (by omega), fun i h => absurd h (by omega), by omega, fun i h => absurd h (by omega)⟩
  · simp at hcs
    obtain ⟨rfl, rfl, rfl⟩ := hcs
    unfold maxLen at *
    have hlen : ∀ i, i < N → (bytesOf ((Z i).take (L i))).length = L i := fun i hi => by
      obtain ⟨_, h1, _, h3, _⟩ := hr i (by omega)
      simp [bytesOf]
      omega
    refine ⟨fun i => .slice (A i) (L i) (C i), fun i => bytesOf ((Z i).take (L i)), fun h => (by cases h), fun h => ?_, fun i hi => ?_, by omega, fun i hi => ?_⟩
    · obtain ⟨h0, _⟩ := hr 0 (by omega)
      have e := spot_none h0
      refine ⟨a.block, a.off, by rw [← e], fun i hi => ?_⟩
      have := (hr i (by omega)).1
      rw [e, add_plain] at this
      exact this
    · obtain ⟨_, h1, h2, h3, h4, h5, h6⟩ := hr i (by omega)
      cases hA : A i with
      | none =>
        have := h5 hA
        left
        have hL : L i = 0 := by omega
        rw [hL, this]
        exact ⟨rfl, rfl⟩
      | some a' =>
        right
        obtain ⟨_, hc⟩ := h6 a' hA
        have hcell : ∀ c, c < L i → W.cell? (a'.add c) = some (.int .u8 ((Z i).getD c 0)) := fun c hc' => hc c (by omega)
        refine ⟨a'.block, a'.off, C i, a'.spot, by rw [hlen i hi], Nat.zero_le _, fun hne => ?_, fun j hj => ?_⟩
        · have h0 : 0 < L i := by
            rcases Nat.eq_zero_or_pos (L i) with e | e
            · exact absurd (List.length_eq_zero_iff.1 ((hlen i hi).trans e)) hne
            · exact e
          have e := spot_none (hcell 0 h0)
          rw [e]
        · rw [hlen i hi] at hj
          have e := spot_none (hcell 0 (by omega))
          have hcj := hcell j hj
          rw [e, add_plain] at hcj
          rw [hcj]
          have hz : j < (Z i).length := by omega
          have hw := h4 ((Z i).getD j 0) (by rw [List.getD_eq_getElem?_getD, List.getElem?_eq_getElem hz]; exact List.getElem_mem hz)
          have hb := byte_back _ hw
          simp only [bytesOf, List.getElem_map, List.getElem_take]
          rw [List.getD_eq_getElem?_getD, List.getElem?_eq_getElem hz] at hb ⊢
          simp only [Option.getD_some] at hb ⊢
          rw [hb]
    · have := hr i (by omega)
      rw [hlen i hi]
      omega

/-- script, opened. -/
theorem open_script {H : Type} {enc : TypeId × Value → H} {W : World} {fuel : Nat} {sv : Option Addr} {M cap : Nat} {x : DataW H × List MemPlace} (h : DataW.trod enc Try.prog W 0 (fun _ => true) true fuel 26 [.slice sv M cap] = some x) :
    ∃ S, Row16 W sv M cap S := by
  rcases open_ints Try.underlying26 Try.underlying22 (by kernel_rfl) h with ⟨hcs, _⟩ | ⟨a, l, c, zs, hcs, _, hl, hm, hz, _, hcell, hwz⟩
  · simp at hcs
    obtain ⟨rfl, rfl, rfl⟩ := hcs
    exact ⟨fun _ => 0, fun _ => ⟨rfl, rfl⟩, fun h => absurd h (by omega), fun i h => absurd h (by omega), by omega⟩
  · simp at hcs
    obtain ⟨rfl, rfl, rfl⟩ := hcs
    unfold maxLen at *
    have hz' : zs.length = cap := by simpa using hz
    have hb : ∀ i, i < M → 0 ≤ zs.getD i 0 ∧ zs.getD i 0 ≤ 65535 := fun i hi => by
      have h : i < zs.length := by omega
      exact bounds_u16 (hwz (zs.getD i 0) (by rw [List.getD_eq_getElem?_getD, List.getElem?_eq_getElem h]; exact List.getElem_mem h))
    refine ⟨fun i => (zs.getD i 0).toNat, fun h => (by cases h), fun h => ?_, fun i hi => by have := hb i hi; omega, by omega⟩
    have e := spot_none (hcell 0 (by omega))
    refine ⟨a.block, a.off, by rw [← e], fun i hi => ?_⟩
    have := hcell i (by omega)
    rw [e, add_plain] at this
    rw [this, Int.toNat_of_nonneg (hb i hi).1]
end Go.Proofs.Qxb6605465a
