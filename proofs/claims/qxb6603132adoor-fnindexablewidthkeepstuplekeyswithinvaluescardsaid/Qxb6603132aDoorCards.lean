/-
  DERIVED. GIVEN WITH THE SEED: THE CARDS: each row of Qxb6603132aDoorRows.lean that lists a variable, with what it lists TIED to the program's text (the seventh form; the later family's looks); each row that meets fmt, with fmt's text TOLD by the authors' own Lean function (tested against real Go, not proved from fmt's source: count such statements apart). THE CARD IS WHAT COUNTS. Prove the row's statement (the work); the ties are given (Qxb6603132aDoorTie.lean); close each card by the builder's one call (the guide's Derived/Test/ToyasCard.lean, 'card_holds'). Laid BY PROGRAM, IN A SANDBOX (cutbox-door.mjs). By AI agents, Wed Nov 11 2026. No macro, syntax, notation, axiom, sorry.
-/
import Derived.Test.Qxb6603132aDoorRows
import GoSem.ClaimSeven
namespace Go.Proofs.Qxb6603132aDoor
namespace Rows

/-- THE TIED CARD OF 'zzlaws_xpath_b1.FnTupleKeysSpellsEveryCombinationInOrder'. -/
def fnTupleKeysSpellsEveryCombinationInOrderCard : Claim7 := { stood := { row := fnTupleKeysSpellsEveryCombinationInOrderRow, standIns := [], harness := (true, "7025207fb41c15235529243870b14cdd95d7f62c3e9dccb0d8fe341477d8403c"), looks := false }, kinds := [], alts := [], laidByText := true, laidKinds := [.data, .data, .data], laidTests := true, laidLooks := .later }
def FnTupleKeysSpellsEveryCombinationInOrderCardSaid : Prop := Claim7.holds Tryd.pinned (.plain (OpenSpec.ofChange fnTupleKeysSpellsEveryCombinationInOrderSpec)) fnTupleKeysSpellsEveryCombinationInOrderCard

/-- THE TIED CARD OF 'zzlaws_xpath_b1.FnIndexableWidthKeepsTupleKeysWithinValues'. -/
def fnIndexableWidthKeepsTupleKeysWithinValuesCard : Claim7 := { stood := { row := fnIndexableWidthKeepsTupleKeysWithinValuesRow, standIns := [], harness := (true, "7025207fb41c15235529243870b14cdd95d7f62c3e9dccb0d8fe341477d8403c"), looks := false }, kinds := [], alts := [], laidByText := true, laidKinds := [.data, .data, .data], laidTests := true, laidLooks := .later }
def FnIndexableWidthKeepsTupleKeysWithinValuesCardSaid : Prop := Claim7.holds Tryd.pinned (.plain (OpenSpec.ofChange fnIndexableWidthKeepsTupleKeysWithinValuesSpec)) fnIndexableWidthKeepsTupleKeysWithinValuesCard
end Rows
end Go.Proofs.Qxb6603132aDoor
