import Derived.Test.Qxb6601572aDoorProof
import Derived.Test.Qxb6601572aDoorTie
import Derived.Test.Qxb6601572aDoorCards
import Derived.SevenTiedAt
namespace Go.Proofs.Qxb6601572aDoor
open Go

/-- THE TIED CARD -/
theorem card_holds : Rows.FnLeftOutParsesBackCardSaid :=
  Claim7.holds_tied_plain_at .later [] [.data, .data, .data] true (true, "d0078404eba0862ab9db00730627dcf8853fcba14168a32792bb92f26f27acdd") false
    row_holds (fun _ h => by cases h) (by kernel_rfl) (fun _ h => by cases h) fnLeftOutParsesBack_row_tie rfl ⟨rfl, rfl⟩ (by kernel_rfl) rfl
    (fun f fn hf hfn => by
      obtain rfl : f = 3 := Option.some.inj ((show Tryd.prog.funcNamed Rows.fnLeftOutParsesBackRow.func = some 3 by kernel_rfl).symm.trans hf) |>.symm
      obtain rfl : fn = Tryd.f3 := (Option.some.inj (Tryd.func3.symm.trans hfn)).symm
      exact ⟨by kernel_rfl, fun j t ht => by
        rw [Tryd.params3] at ht
        have hm : t ∈ [3, 9] := by simpa using Array.mem_of_getElem? ht
        have hall : ([3, 9].all fun u => !Tryd.prog.wantsStandIn u) = true := by kernel_rfl
        exact (show Tryd.prog.wantsStandIn t = false by simpa using List.all_eq_true.1 hall t hm)⟩)
    (by kernel_rfl)
end Go.Proofs.Qxb6601572aDoor
