import Derived.Test.Qxb6605432aValid
import Derived.OpenShut
namespace Go.Proofs.Qxb6605432a
open Go.RowKit

theorem valid_one (c : UInt8) : validB [c] = inB c.toNat := by simp [validB]

set_option maxHeartbeats 400000 in
theorem walkA (a0 : Int) (w0 : (Lit.int .u8 a0).wf = true) (w : World) :
    Calls Try.prog 5 #[.int .u8 a0] w fun e w' => e = .returned (.bool true) ∧ Below w.heap.size w w' := by
  have hb := bounds_u8 w0
  obtain ⟨c, rfl⟩ : ∃ c : UInt8, a0 = (c.toNat : Int) := ⟨UInt8.ofNat a0.toNat, by simp; omega⟩
  clear w0 hb
  have hconv := run_convert_bytes_back (P := Try.prog) (w.alloc (.cells #[.int .u8 (c.toNat : Int)] 5)) 25 9 5 ⟨w.heap.size, 0, none⟩ 1 [c] Try.underlying25 Try.underlying5 Try.underlying9 (fun j hj => by
    have hj0 : j = 0 := by simpa using hj
    subst hj0
    simp [Addr.add, World.cell?_alloc_mark])
  simp only [List.length_singleton] at hconv
  have hv : Hid (validB [c] = inB c.toNat) := valid_one c
  have hbel : Hid (Below w.heap.size w (w.alloc (.cells #[.int .u8 (c.toNat : Int)] 5))) := (Below.refl _ _).alloc (Nat.le_refl _) _
  go_enter Try.func5, Try.ntmps5
  go_wp2_with (first | (go_at_call 11; refine (alpha_any _ _).mono ?_; rintro e w' ⟨rfl, rfl⟩) | (go_at_call 12; go_in) | (go_at_call 15; refine (byte_any _ _).mono ?_; rintro e w' ⟨rfl, rfl⟩))
  refine (valid_any _ _).mono ?_
  rintro e w1 ⟨rfl, hb1⟩
  have hfin : Below w.heap.size w w1 := hbel.out.trans (hb1.mono (by simp))
  simp only [hv.out]
  clear hb1 hconv hbel
  go_wp2
  go_ret
  exact ⟨rfl, hfin⟩
end Go.Proofs.Qxb6605432a
