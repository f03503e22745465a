import Derived.Test.Qxb6605465aPool
namespace Go.Proofs.Qxb6605465a
open Go.RowKit

/-! ### (*Constant).utf8Text (19) -/
set_option maxHeartbeats 400000 in
theorem text_any {B : Nat} (w : World) (gp o : Nat) (a : Option Addr) (cap : Nat) (l : List UInt8) (c2 : w.cell? ⟨gp, o + 2, none⟩ = some (.string ⟨#[]⟩))
    (c1 : w.cell? ⟨gp, o + 1, none⟩ = some (.slice a l.length cap)) (hb : Bts B w (.slice a l.length cap) l) (hl : l.length ≤ 1048576) :
    Calls Try.prog 19 #[.pointer (some ⟨gp, o, none⟩)] w fun e w' => e = .returned (.string ⟨l.toArray⟩) ∧ ∃ n, w' = w.drewN n := by
  by_cases h0 : l.length = 0
  · have e0 := List.length_eq_zero_iff.1 h0
    subst e0
    clear hb
    go_enter Try.func19, Try.ntmps19
    go_wp2
    go_quiet (fail)
    go_wp2
    go_ret
    exact ⟨rfl, _, rfl⟩
  · obtain ⟨b, off, cp, hv, _, hc⟩ := hb.full (by omega)
    injection hv with hv1 _ hv3
    subst hv1 hv3
    have hconv : ∀ n, (convert 28 9 (.slice (some ⟨b, off, none⟩) l.length cap)).run Try.prog (w.drewN n) = .ok (.string ⟨l.toArray⟩) (w.drewN n) := fun n =>
      run_convert_bytes_back (P := Try.prog) (w.drewN n) 28 9 5 ⟨b, off, none⟩ cap l Try.underlying28 Try.underlying5 Try.underlying9 (fun j hj => by
        have := hc j hj
        rw [WideShapes.add_plain]
        simpa using this)
    have hq : ((0 : Int) != (l.length : Int)) = true := by rw [bne_iff_ne]; omega
    go_enter Try.func19, Try.ntmps19
    go_wp2
    go_quiet (fail)
    go_wp2
    go_ret
    exact ⟨rfl, _, rfl⟩
end Go.Proofs.Qxb6605465a
