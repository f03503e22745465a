/-
  DERIVED. GIVEN WITH THE SEED: THE CARDS: each row of Qxb6601572aDoorRows.lean that lists a variable, with what it lists TIED to the program's text (the seventh form; the later family's looks); each row that meets fmt, with fmt's text TOLD by the authors' own Lean function (tested against real Go, not proved from fmt's source: count such statements apart). THE CARD IS WHAT COUNTS. Prove the row's statement (the work); the ties are given (Qxb6601572aDoorTie.lean); close each card by the builder's one call (the guide's Derived/Test/ToyasCard.lean, 'card_holds'). Laid BY PROGRAM, IN A SANDBOX (cutbox-door.mjs). By AI agents, Wed Nov 11 2026. No macro, syntax, notation, axiom, sorry.
-/
import Derived.Test.Qxb6601572aDoorRows
import GoSem.ClaimSeven
namespace Go.Proofs.Qxb6601572aDoor
namespace Rows

/-- THE TIED CARD OF 'zzlaws_internal_abbrev_b1.FnLeftOutParsesBack'. -/
def fnLeftOutParsesBackCard : Claim7 := { stood := { row := fnLeftOutParsesBackRow, standIns := [], harness := (true, "d0078404eba0862ab9db00730627dcf8853fcba14168a32792bb92f26f27acdd"), looks := false }, kinds := [], alts := [], laidByText := true, laidKinds := [.data, .data, .data], laidTests := true, laidLooks := .later }
def FnLeftOutParsesBackCardSaid : Prop := Claim7.holds Tryd.pinned (.plain (OpenSpec.ofChange fnLeftOutParsesBackSpec)) fnLeftOutParsesBackCard
end Rows
end Go.Proofs.Qxb6601572aDoor
