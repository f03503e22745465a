/-
  No cell of these rows narrows 'for every input' (looked for: loops, veiled, ifaces, maps, wideKeys, modest, calm, conditions, laid).
  DERIVED. THE GIVEN ROWS OF THIS SEAT. 4 by the template 'for every input the law returns true; each argument reads behind the call as it read before'; 0 by the template 'total and deterministic' (their statements: Qxb6605432aTotals.lean).
  GIVEN WITH THE SEED: the statements are not yours to turn. If you find one false, say at which input.
  Laid BY PROGRAM, IN A SANDBOX (cutbox-rows.mjs): the forced cells as the released guide's own fill.sh prints them over the translation 3a8882606d58bd23… (all of the seat's roots in one cut). By AI agents, Wed Nov 11 2026. No macro, syntax, notation, axiom, sorry.
-/
import Derived.Test.Qxb6605432aChecked
import GoSem.Claim
import GoSem.ClaimJoined
import GoSem.ClaimMapViews
import Derived.JoinedTies
import Derived.KernelRfl
namespace Go.Proofs.Qxb6605432a
/- THE CELL 'sum', in the pinned program and in every row, IS THE sha256 OF THE DUMP (.gsa) THAT Qxb6605432aProg.lean LOADS. Nothing in Lean hashes anything: it is a label: what it is worth is what the hold of that sum in a sandbox is worth. -/
noncomputable def Try.pinned : Pinned := { name := "qxb6605432a", sum := "3a8882606d58bd23527a9b9295bf332d6cf8d452d39196ec950dc6ae189cf793", checked := Try.checked }
namespace Rows
def none {H : Type} : Left H := { results := [], args := [] }

/-- 'zzlaws_pkg_audit_b1.FnValidActorIDMatchesAlphabetModel': WHATEVER THE INPUT: true; the input reads as it did. -/
def fnValidActorIDMatchesAlphabetModelSpec : ChangeSpec := { name := "fnValidActorIDMatchesAlphabetModel", fn := fun _ => fun
  | [d] => { results := [.lit (.bool true)], args := [d] }
  | _ => none }
def fnValidActorIDMatchesAlphabetModelRow : OpenClaim := { program := "qxb6605432a", sum := "3a8882606d58bd23527a9b9295bf332d6cf8d452d39196ec950dc6ae189cf793", func := "example.com/glasslatch/glasslatch/zzlaws_pkg_audit_b1.FnValidActorIDMatchesAlphabetModel", spec := "fnValidActorIDMatchesAlphabetModel", apart := false }
def FnValidActorIDMatchesAlphabetModelSaid : Prop := fnValidActorIDMatchesAlphabetModelRow.holds Try.pinned (OpenSpec.ofChange fnValidActorIDMatchesAlphabetModelSpec)

/-- ITS FALSE NEIGHBOUR: 'it returns false'. Refute it at one input. -/
def fnValidActorIDMatchesAlphabetModelWrong : ChangeSpec := { name := "fnValidActorIDMatchesAlphabetModel", fn := fun _ => fun
  | [d] => { results := [.lit (.bool false)], args := [d] }
  | _ => none }
def FnValidActorIDMatchesAlphabetModelWrongFalsely : Prop := fnValidActorIDMatchesAlphabetModelRow.holds Try.pinned (OpenSpec.ofChange fnValidActorIDMatchesAlphabetModelWrong)

/-- 'zzlaws_pkg_audit_b1.FnValidActorIDConcat': WHATEVER THE INPUT: true; the input reads as it did. -/
def fnValidActorIDConcatSpec : ChangeSpec := { name := "fnValidActorIDConcat", fn := fun _ => fun
  | [d1, d2] => { results := [.lit (.bool true)], args := [d1, d2] }
  | _ => none }
def fnValidActorIDConcatRow : OpenClaim := { program := "qxb6605432a", sum := "3a8882606d58bd23527a9b9295bf332d6cf8d452d39196ec950dc6ae189cf793", func := "example.com/glasslatch/glasslatch/zzlaws_pkg_audit_b1.FnValidActorIDConcat", spec := "fnValidActorIDConcat", apart := false }
def FnValidActorIDConcatSaid : Prop := fnValidActorIDConcatRow.holds Try.pinned (OpenSpec.ofChange fnValidActorIDConcatSpec)

/-- ITS FALSE NEIGHBOUR: 'it returns false'. Refute it at one input. -/
def fnValidActorIDConcatWrong : ChangeSpec := { name := "fnValidActorIDConcat", fn := fun _ => fun
  | [d1, d2] => { results := [.lit (.bool false)], args := [d1, d2] }
  | _ => none }
def FnValidActorIDConcatWrongFalsely : Prop := fnValidActorIDConcatRow.holds Try.pinned (OpenSpec.ofChange fnValidActorIDConcatWrong)

/-- 'zzlaws_pkg_audit_b1.FnActorIDByteMatchesAlphabet': WHATEVER THE INPUT: true; the input reads as it did. -/
def fnActorIDByteMatchesAlphabetSpec : ChangeSpec := { name := "fnActorIDByteMatchesAlphabet", fn := fun _ => fun
  | [d] => { results := [.lit (.bool true)], args := [d] }
  | _ => none }
def fnActorIDByteMatchesAlphabetRow : OpenClaim := { program := "qxb6605432a", sum := "3a8882606d58bd23527a9b9295bf332d6cf8d452d39196ec950dc6ae189cf793", func := "example.com/glasslatch/glasslatch/zzlaws_pkg_audit_b1.FnActorIDByteMatchesAlphabet", spec := "fnActorIDByteMatchesAlphabet", apart := false }
def FnActorIDByteMatchesAlphabetSaid : Prop := fnActorIDByteMatchesAlphabetRow.holds Try.pinned (OpenSpec.ofChange fnActorIDByteMatchesAlphabetSpec)

/-- ITS FALSE NEIGHBOUR: 'it returns false'. Refute it at one input. -/
def fnActorIDByteMatchesAlphabetWrong : ChangeSpec := { name := "fnActorIDByteMatchesAlphabet", fn := fun _ => fun
  | [d] => { results := [.lit (.bool false)], args := [d] }
  | _ => none }
def FnActorIDByteMatchesAlphabetWrongFalsely : Prop := fnActorIDByteMatchesAlphabetRow.holds Try.pinned (OpenSpec.ofChange fnActorIDByteMatchesAlphabetWrong)

/-- 'zzlaws_pkg_audit_b1.FnActorIdempotentAndSafe': WHATEVER THE INPUT: true; the input reads as it did. -/
def fnActorIdempotentAndSafeSpec : ChangeSpec := { name := "fnActorIdempotentAndSafe", fn := fun _ => fun
  | [d] => { results := [.lit (.bool true)], args := [d] }
  | _ => none }
def fnActorIdempotentAndSafeRow : OpenClaim := { program := "qxb6605432a", sum := "3a8882606d58bd23527a9b9295bf332d6cf8d452d39196ec950dc6ae189cf793", func := "example.com/glasslatch/glasslatch/zzlaws_pkg_audit_b1.FnActorIdempotentAndSafe", spec := "fnActorIdempotentAndSafe", apart := false }
def FnActorIdempotentAndSafeSaid : Prop := fnActorIdempotentAndSafeRow.holds Try.pinned (OpenSpec.ofChange fnActorIdempotentAndSafeSpec)

/-- ITS FALSE NEIGHBOUR: 'it returns false'. Refute it at one input. -/
def fnActorIdempotentAndSafeWrong : ChangeSpec := { name := "fnActorIdempotentAndSafe", fn := fun _ => fun
  | [d] => { results := [.lit (.bool false)], args := [d] }
  | _ => none }
def FnActorIdempotentAndSafeWrongFalsely : Prop := fnActorIdempotentAndSafeRow.holds Try.pinned (OpenSpec.ofChange fnActorIdempotentAndSafeWrong)

end Rows
end Go.Proofs.Qxb6605432a
