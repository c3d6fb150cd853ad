/-
  No cell of these rows narrows 'for every input' (looked for: loops, veiled, ifaces, maps, wideKeys, modest, calm, conditions, laid).
  DERIVED. THE GIVEN ROWS OF THIS SEAT. 2 by the template 'for every input the law returns true; each argument reads behind the call as it read before'; 0 by the template 'total and deterministic' (their statements: Qxb6603132aTotals.lean).
  GIVEN WITH THE SEED: the statements are not yours to turn. If you find one false, say at which input.
  Laid BY PROGRAM, IN A SANDBOX (cutbox-rows.mjs): the forced cells as the released guide's own fill.sh prints them over the translation 7c945ad8781df820… (all of the seat's roots in one cut). By AI agents, Wed Nov 11 2026. No macro, syntax, notation, axiom, sorry.
-/
import Derived.Test.Qxb6603132aChecked
import GoSem.Claim
import GoSem.ClaimJoined
import GoSem.ClaimMapViews
import Derived.JoinedTies
import Derived.KernelRfl
namespace Go.Proofs.Qxb6603132a
/- THE CELL 'sum', in the pinned program and in every row, IS THE sha256 OF THE DUMP (.gsa) THAT Qxb6603132aProg.lean LOADS. Nothing in Lean hashes anything: it is a label: what it is worth is what the hold of that sum in a sandbox is worth. -/
noncomputable def Try.pinned : Pinned := { name := "qxb6603132a", sum := "7c945ad8781df820298fbbfcfe13d3cbfa5bfb202f8dfe2c442657805d424626", checked := Try.checked }
namespace Rows
def none {H : Type} : Left H := { results := [], args := [] }

/-- 'zzlaws_xpath_b1.FnIndexableIsWidestWidthWithinValues': WHATEVER THE INPUT: true; the input reads as it did. -/
def fnIndexableIsWidestWidthWithinValuesSpec : ChangeSpec := { name := "fnIndexableIsWidestWidthWithinValues", fn := fun _ => fun
  | [d1, d2] => { results := [.lit (.bool true)], args := [d1, d2] }
  | _ => none }
def fnIndexableIsWidestWidthWithinValuesRow : OpenClaim := { program := "qxb6603132a", sum := "7c945ad8781df820298fbbfcfe13d3cbfa5bfb202f8dfe2c442657805d424626", func := "example.com/keelson/keelson/zzlaws_xpath_b1.FnIndexableIsWidestWidthWithinValues", spec := "fnIndexableIsWidestWidthWithinValues", unfollowed := true, recurses := true, apart := false }
def FnIndexableIsWidestWidthWithinValuesSaid : Prop := fnIndexableIsWidestWidthWithinValuesRow.holds Try.pinned (OpenSpec.ofChange fnIndexableIsWidestWidthWithinValuesSpec)

/-- ITS FALSE NEIGHBOUR: 'it returns false'. Refute it at one input. -/
def fnIndexableIsWidestWidthWithinValuesWrong : ChangeSpec := { name := "fnIndexableIsWidestWidthWithinValues", fn := fun _ => fun
  | [d1, d2] => { results := [.lit (.bool false)], args := [d1, d2] }
  | _ => none }
def FnIndexableIsWidestWidthWithinValuesWrongFalsely : Prop := fnIndexableIsWidestWidthWithinValuesRow.holds Try.pinned (OpenSpec.ofChange fnIndexableIsWidestWidthWithinValuesWrong)

/-- 'zzlaws_xpath_b1.FnOperatorExpectedSeesOnlyTheLastToken': WHATEVER THE INPUT: true; the input reads as it did. -/
def fnOperatorExpectedSeesOnlyTheLastTokenSpec : ChangeSpec := { name := "fnOperatorExpectedSeesOnlyTheLastToken", fn := fun _ => fun
  | [d1, d2, d3, d4, d5] => { results := [.lit (.bool true)], args := [d1, d2, d3, d4, d5] }
  | _ => none }
def fnOperatorExpectedSeesOnlyTheLastTokenRow : OpenClaim := { program := "qxb6603132a", sum := "7c945ad8781df820298fbbfcfe13d3cbfa5bfb202f8dfe2c442657805d424626", func := "example.com/keelson/keelson/zzlaws_xpath_b1.FnOperatorExpectedSeesOnlyTheLastToken", spec := "fnOperatorExpectedSeesOnlyTheLastToken", apart := false }
def FnOperatorExpectedSeesOnlyTheLastTokenSaid : Prop := fnOperatorExpectedSeesOnlyTheLastTokenRow.holds Try.pinned (OpenSpec.ofChange fnOperatorExpectedSeesOnlyTheLastTokenSpec)

/-- ITS FALSE NEIGHBOUR: 'it returns false'. Refute it at one input. -/
def fnOperatorExpectedSeesOnlyTheLastTokenWrong : ChangeSpec := { name := "fnOperatorExpectedSeesOnlyTheLastToken", fn := fun _ => fun
  | [d1, d2, d3, d4, d5] => { results := [.lit (.bool false)], args := [d1, d2, d3, d4, d5] }
  | _ => none }
def FnOperatorExpectedSeesOnlyTheLastTokenWrongFalsely : Prop := fnOperatorExpectedSeesOnlyTheLastTokenRow.holds Try.pinned (OpenSpec.ofChange fnOperatorExpectedSeesOnlyTheLastTokenWrong)

end Rows
end Go.Proofs.Qxb6603132a
