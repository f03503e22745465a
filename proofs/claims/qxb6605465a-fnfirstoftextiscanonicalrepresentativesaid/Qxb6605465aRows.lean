/-
  No cell of these rows narrows 'for every input' (looked for: loops, veiled, ifaces, maps, wideKeys, modest, calm, conditions, laid).
  DERIVED. THE GIVEN ROWS OF THIS SEAT. 3 by the template 'for every input the law returns true; each argument reads behind the call as it read before'; 0 by the template 'total and deterministic' (their statements: Qxb6605465aTotals.lean).
  GIVEN WITH THE SEED: the statements are not yours to turn. If you find one false, say at which input.
  Laid BY PROGRAM, IN A SANDBOX (cutbox-rows.mjs): the forced cells as the released guide's own fill.sh prints them over the translation 30c7b2bea77c2dbf… (all of the seat's roots in one cut). By AI agents, Wed Nov 11 2026. No macro, syntax, notation, axiom, sorry.
-/
import Derived.Test.Qxb6605465aChecked
import GoSem.Claim
import GoSem.ClaimJoined
import GoSem.ClaimMapViews
import Derived.JoinedTies
import Derived.KernelRfl
namespace Go.Proofs.Qxb6605465a
/- THE CELL 'sum', in the pinned program and in every row, IS THE sha256 OF THE DUMP (.gsa) THAT Qxb6605465aProg.lean LOADS. Nothing in Lean hashes anything: it is a label: what it is worth is what the hold of that sum in a sandbox is worth. -/
noncomputable def Try.pinned : Pinned := { name := "qxb6605465a", sum := "30c7b2bea77c2dbf28010555cdd973b83532c82fba809c14663e8d4c29a54f3b", checked := Try.checked }
namespace Rows
def none {H : Type} : Left H := { results := [], args := [] }

/-- 'zzlaws_classfile_b1.FnFieldFlagsRuleAcceptsExactly': WHATEVER THE INPUT: true; the input reads as it did. -/
def fnFieldFlagsRuleAcceptsExactlySpec : ChangeSpec := { name := "fnFieldFlagsRuleAcceptsExactly", fn := fun _ => fun
  | [d] => { results := [.lit (.bool true)], args := [d] }
  | _ => none }
def fnFieldFlagsRuleAcceptsExactlyRow : OpenClaim := { program := "qxb6605465a", sum := "30c7b2bea77c2dbf28010555cdd973b83532c82fba809c14663e8d4c29a54f3b", func := "example.com/tessera/tessera/zzlaws_classfile_b1.FnFieldFlagsRuleAcceptsExactly", spec := "fnFieldFlagsRuleAcceptsExactly", apart := false }
def FnFieldFlagsRuleAcceptsExactlySaid : Prop := fnFieldFlagsRuleAcceptsExactlyRow.holds Try.pinned (OpenSpec.ofChange fnFieldFlagsRuleAcceptsExactlySpec)

/-- ITS FALSE NEIGHBOUR: 'it returns false'. Refute it at one input. -/
def fnFieldFlagsRuleAcceptsExactlyWrong : ChangeSpec := { name := "fnFieldFlagsRuleAcceptsExactly", fn := fun _ => fun
  | [d] => { results := [.lit (.bool false)], args := [d] }
  | _ => none }
def FnFieldFlagsRuleAcceptsExactlyWrongFalsely : Prop := fnFieldFlagsRuleAcceptsExactlyRow.holds Try.pinned (OpenSpec.ofChange fnFieldFlagsRuleAcceptsExactlyWrong)

/-- 'zzlaws_classfile_b1.FnFirstOfTextIsFirstAskedOfSameText': WHATEVER THE INPUT: true; the input reads as it did. -/
def fnFirstOfTextIsFirstAskedOfSameTextSpec : ChangeSpec := { name := "fnFirstOfTextIsFirstAskedOfSameText", fn := fun _ => fun
  | [d1, d2] => { results := [.lit (.bool true)], args := [d1, d2] }
  | _ => none }
def fnFirstOfTextIsFirstAskedOfSameTextRow : OpenClaim := { program := "qxb6605465a", sum := "30c7b2bea77c2dbf28010555cdd973b83532c82fba809c14663e8d4c29a54f3b", func := "example.com/tessera/tessera/zzlaws_classfile_b1.FnFirstOfTextIsFirstAskedOfSameText", spec := "fnFirstOfTextIsFirstAskedOfSameText", apart := false }
def FnFirstOfTextIsFirstAskedOfSameTextSaid : Prop := fnFirstOfTextIsFirstAskedOfSameTextRow.holds Try.pinned (OpenSpec.ofChange fnFirstOfTextIsFirstAskedOfSameTextSpec)

/-- ITS FALSE NEIGHBOUR: 'it returns false'. Refute it at one input. -/
def fnFirstOfTextIsFirstAskedOfSameTextWrong : ChangeSpec := { name := "fnFirstOfTextIsFirstAskedOfSameText", fn := fun _ => fun
  | [d1, d2] => { results := [.lit (.bool false)], args := [d1, d2] }
  | _ => none }
def FnFirstOfTextIsFirstAskedOfSameTextWrongFalsely : Prop := fnFirstOfTextIsFirstAskedOfSameTextRow.holds Try.pinned (OpenSpec.ofChange fnFirstOfTextIsFirstAskedOfSameTextWrong)

/-- 'zzlaws_classfile_b1.FnFirstOfTextIsCanonicalRepresentative': WHATEVER THE INPUT: true; the input reads as it did. -/
def fnFirstOfTextIsCanonicalRepresentativeSpec : ChangeSpec := { name := "fnFirstOfTextIsCanonicalRepresentative", fn := fun _ => fun
  | [d1, d2] => { results := [.lit (.bool true)], args := [d1, d2] }
  | _ => none }
def fnFirstOfTextIsCanonicalRepresentativeRow : OpenClaim := { program := "qxb6605465a", sum := "30c7b2bea77c2dbf28010555cdd973b83532c82fba809c14663e8d4c29a54f3b", func := "example.com/tessera/tessera/zzlaws_classfile_b1.FnFirstOfTextIsCanonicalRepresentative", spec := "fnFirstOfTextIsCanonicalRepresentative", apart := false }
def FnFirstOfTextIsCanonicalRepresentativeSaid : Prop := fnFirstOfTextIsCanonicalRepresentativeRow.holds Try.pinned (OpenSpec.ofChange fnFirstOfTextIsCanonicalRepresentativeSpec)

/-- ITS FALSE NEIGHBOUR: 'it returns false'. Refute it at one input. -/
def fnFirstOfTextIsCanonicalRepresentativeWrong : ChangeSpec := { name := "fnFirstOfTextIsCanonicalRepresentative", fn := fun _ => fun
  | [d1, d2] => { results := [.lit (.bool false)], args := [d1, d2] }
  | _ => none }
def FnFirstOfTextIsCanonicalRepresentativeWrongFalsely : Prop := fnFirstOfTextIsCanonicalRepresentativeRow.holds Try.pinned (OpenSpec.ofChange fnFirstOfTextIsCanonicalRepresentativeWrong)

end Rows
end Go.Proofs.Qxb6605465a
