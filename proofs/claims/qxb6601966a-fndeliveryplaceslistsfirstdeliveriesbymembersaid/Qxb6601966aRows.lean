/-
  No cell of these rows narrows 'for every input' (looked for: loops, veiled, ifaces, maps, wideKeys, modest, calm, conditions, laid).
  DERIVED. THE GIVEN ROWS OF THIS SEAT. 6 by the template 'for every input the law returns true; each argument reads behind the call as it read before'; 0 by the template 'total and deterministic' (their statements: Qxb6601966aTotals.lean).
  GIVEN WITH THE SEED: the statements are not yours to turn. If you find one false, say at which input.
  Laid BY PROGRAM, IN A SANDBOX (cutbox-rows.mjs): the forced cells as the released guide's own fill.sh prints them over the translation b13a9b3e6bd7a896… (all of the seat's roots in one cut). By AI agents, Wed Nov 11 2026. No macro, syntax, notation, axiom, sorry.
-/
import Derived.Test.Qxb6601966aChecked
import GoSem.Claim
import GoSem.ClaimJoined
import GoSem.ClaimMapViews
import Derived.JoinedTies
import Derived.KernelRfl
namespace Go.Proofs.Qxb6601966a
/- THE CELL 'sum', in the pinned program and in every row, IS THE sha256 OF THE DUMP (.gsa) THAT Qxb6601966aProg.lean LOADS. Nothing in Lean hashes anything: it is a label: what it is worth is what the hold of that sum in a sandbox is worth. -/
noncomputable def Try.pinned : Pinned := { name := "qxb6601966a", sum := "b13a9b3e6bd7a896b6c4dbeb2f4482a83f1557d72a0af46261f90febf06a1347", checked := Try.checked }
namespace Rows
def none {H : Type} : Left H := { results := [], args := [] }

/-- 'zzlaws_root_b1.FnSenderMessagesAddRecordsExactly': WHATEVER THE INPUT: true; the input reads as it did. -/
def fnSenderMessagesAddRecordsExactlySpec : ChangeSpec := { name := "fnSenderMessagesAddRecordsExactly", fn := fun _ => fun
  | [d1, d2, d3, d4, d5, d6] => { results := [.lit (.bool true)], args := [d1, d2, d3, d4, d5, d6] }
  | _ => none }
def fnSenderMessagesAddRecordsExactlyRow : OpenClaim := { program := "qxb6601966a", sum := "b13a9b3e6bd7a896b6c4dbeb2f4482a83f1557d72a0af46261f90febf06a1347", func := "example.com/orderwise/orderwise/zzlaws_root_b1.FnSenderMessagesAddRecordsExactly", spec := "fnSenderMessagesAddRecordsExactly", apart := false }
def FnSenderMessagesAddRecordsExactlySaid : Prop := fnSenderMessagesAddRecordsExactlyRow.holds Try.pinned (OpenSpec.ofChange fnSenderMessagesAddRecordsExactlySpec)

/-- ITS FALSE NEIGHBOUR: 'it returns false'. Refute it at one input. -/
def fnSenderMessagesAddRecordsExactlyWrong : ChangeSpec := { name := "fnSenderMessagesAddRecordsExactly", fn := fun _ => fun
  | [d1, d2, d3, d4, d5, d6] => { results := [.lit (.bool false)], args := [d1, d2, d3, d4, d5, d6] }
  | _ => none }
def FnSenderMessagesAddRecordsExactlyWrongFalsely : Prop := fnSenderMessagesAddRecordsExactlyRow.holds Try.pinned (OpenSpec.ofChange fnSenderMessagesAddRecordsExactlyWrong)

/-- 'zzlaws_root_b1.FnSenderMessagesAddScriptFromEmpty': WHATEVER THE INPUT: true; the input reads as it did. -/
def fnSenderMessagesAddScriptFromEmptySpec : ChangeSpec := { name := "fnSenderMessagesAddScriptFromEmpty", fn := fun _ => fun
  | [d1, d2] => { results := [.lit (.bool true)], args := [d1, d2] }
  | _ => none }
def fnSenderMessagesAddScriptFromEmptyRow : OpenClaim := { program := "qxb6601966a", sum := "b13a9b3e6bd7a896b6c4dbeb2f4482a83f1557d72a0af46261f90febf06a1347", func := "example.com/orderwise/orderwise/zzlaws_root_b1.FnSenderMessagesAddScriptFromEmpty", spec := "fnSenderMessagesAddScriptFromEmpty", apart := false }
def FnSenderMessagesAddScriptFromEmptySaid : Prop := fnSenderMessagesAddScriptFromEmptyRow.holds Try.pinned (OpenSpec.ofChange fnSenderMessagesAddScriptFromEmptySpec)

/-- ITS FALSE NEIGHBOUR: 'it returns false'. Refute it at one input. -/
def fnSenderMessagesAddScriptFromEmptyWrong : ChangeSpec := { name := "fnSenderMessagesAddScriptFromEmpty", fn := fun _ => fun
  | [d1, d2] => { results := [.lit (.bool false)], args := [d1, d2] }
  | _ => none }
def FnSenderMessagesAddScriptFromEmptyWrongFalsely : Prop := fnSenderMessagesAddScriptFromEmptyRow.holds Try.pinned (OpenSpec.ofChange fnSenderMessagesAddScriptFromEmptyWrong)

/-- 'zzlaws_root_b1.FnInternNumbersNamesByFirstArrival': WHATEVER THE INPUT: true; the input reads as it did. -/
def fnInternNumbersNamesByFirstArrivalSpec : ChangeSpec := { name := "fnInternNumbersNamesByFirstArrival", fn := fun _ => fun
  | [d] => { results := [.lit (.bool true)], args := [d] }
  | _ => none }
def fnInternNumbersNamesByFirstArrivalRow : OpenClaim := { program := "qxb6601966a", sum := "b13a9b3e6bd7a896b6c4dbeb2f4482a83f1557d72a0af46261f90febf06a1347", func := "example.com/orderwise/orderwise/zzlaws_root_b1.FnInternNumbersNamesByFirstArrival", spec := "fnInternNumbersNamesByFirstArrival", apart := false }
def FnInternNumbersNamesByFirstArrivalSaid : Prop := fnInternNumbersNamesByFirstArrivalRow.holds Try.pinned (OpenSpec.ofChange fnInternNumbersNamesByFirstArrivalSpec)

/-- ITS FALSE NEIGHBOUR: 'it returns false'. Refute it at one input. -/
def fnInternNumbersNamesByFirstArrivalWrong : ChangeSpec := { name := "fnInternNumbersNamesByFirstArrival", fn := fun _ => fun
  | [d] => { results := [.lit (.bool false)], args := [d] }
  | _ => none }
def FnInternNumbersNamesByFirstArrivalWrongFalsely : Prop := fnInternNumbersNamesByFirstArrivalRow.holds Try.pinned (OpenSpec.ofChange fnInternNumbersNamesByFirstArrivalWrong)

/-- 'zzlaws_root_b1.FnInternAddsOrFindsWithoutDisturbing': WHATEVER THE INPUT: true; the input reads as it did. -/
def fnInternAddsOrFindsWithoutDisturbingSpec : ChangeSpec := { name := "fnInternAddsOrFindsWithoutDisturbing", fn := fun _ => fun
  | [d1, d2, d3, d4, d5, d6, d7, d8, d9, d10] => { results := [.lit (.bool true)], args := [d1, d2, d3, d4, d5, d6, d7, d8, d9, d10] }
  | _ => none }
def fnInternAddsOrFindsWithoutDisturbingRow : OpenClaim := { program := "qxb6601966a", sum := "b13a9b3e6bd7a896b6c4dbeb2f4482a83f1557d72a0af46261f90febf06a1347", func := "example.com/orderwise/orderwise/zzlaws_root_b1.FnInternAddsOrFindsWithoutDisturbing", spec := "fnInternAddsOrFindsWithoutDisturbing", apart := false }
def FnInternAddsOrFindsWithoutDisturbingSaid : Prop := fnInternAddsOrFindsWithoutDisturbingRow.holds Try.pinned (OpenSpec.ofChange fnInternAddsOrFindsWithoutDisturbingSpec)

/-- ITS FALSE NEIGHBOUR: 'it returns false'. Refute it at one input. -/
def fnInternAddsOrFindsWithoutDisturbingWrong : ChangeSpec := { name := "fnInternAddsOrFindsWithoutDisturbing", fn := fun _ => fun
  | [d1, d2, d3, d4, d5, d6, d7, d8, d9, d10] => { results := [.lit (.bool false)], args := [d1, d2, d3, d4, d5, d6, d7, d8, d9, d10] }
  | _ => none }
def FnInternAddsOrFindsWithoutDisturbingWrongFalsely : Prop := fnInternAddsOrFindsWithoutDisturbingRow.holds Try.pinned (OpenSpec.ofChange fnInternAddsOrFindsWithoutDisturbingWrong)

/-- 'zzlaws_root_b1.FnDeliveryPlacesListsFirstDeliveriesByMember': WHATEVER THE INPUT: true; the input reads as it did. -/
def fnDeliveryPlacesListsFirstDeliveriesByMemberSpec : ChangeSpec := { name := "fnDeliveryPlacesListsFirstDeliveriesByMember", fn := fun _ => fun
  | [d1, d2, d3] => { results := [.lit (.bool true)], args := [d1, d2, d3] }
  | _ => none }
def fnDeliveryPlacesListsFirstDeliveriesByMemberRow : OpenClaim := { program := "qxb6601966a", sum := "b13a9b3e6bd7a896b6c4dbeb2f4482a83f1557d72a0af46261f90febf06a1347", func := "example.com/orderwise/orderwise/zzlaws_root_b1.FnDeliveryPlacesListsFirstDeliveriesByMember", spec := "fnDeliveryPlacesListsFirstDeliveriesByMember", apart := false }
def FnDeliveryPlacesListsFirstDeliveriesByMemberSaid : Prop := fnDeliveryPlacesListsFirstDeliveriesByMemberRow.holds Try.pinned (OpenSpec.ofChange fnDeliveryPlacesListsFirstDeliveriesByMemberSpec)

/-- ITS FALSE NEIGHBOUR: 'it returns false'. Refute it at one input. -/
def fnDeliveryPlacesListsFirstDeliveriesByMemberWrong : ChangeSpec := { name := "fnDeliveryPlacesListsFirstDeliveriesByMember", fn := fun _ => fun
  | [d1, d2, d3] => { results := [.lit (.bool false)], args := [d1, d2, d3] }
  | _ => none }
def FnDeliveryPlacesListsFirstDeliveriesByMemberWrongFalsely : Prop := fnDeliveryPlacesListsFirstDeliveriesByMemberRow.holds Try.pinned (OpenSpec.ofChange fnDeliveryPlacesListsFirstDeliveriesByMemberWrong)

/-- 'zzlaws_root_b1.FnDeliveryPlacesIgnoreRedeliveries': WHATEVER THE INPUT: true; the input reads as it did. -/
def fnDeliveryPlacesIgnoreRedeliveriesSpec : ChangeSpec := { name := "fnDeliveryPlacesIgnoreRedeliveries", fn := fun _ => fun
  | [d1, d2, d3] => { results := [.lit (.bool true)], args := [d1, d2, d3] }
  | _ => none }
def fnDeliveryPlacesIgnoreRedeliveriesRow : OpenClaim := { program := "qxb6601966a", sum := "b13a9b3e6bd7a896b6c4dbeb2f4482a83f1557d72a0af46261f90febf06a1347", func := "example.com/orderwise/orderwise/zzlaws_root_b1.FnDeliveryPlacesIgnoreRedeliveries", spec := "fnDeliveryPlacesIgnoreRedeliveries", apart := false }
def FnDeliveryPlacesIgnoreRedeliveriesSaid : Prop := fnDeliveryPlacesIgnoreRedeliveriesRow.holds Try.pinned (OpenSpec.ofChange fnDeliveryPlacesIgnoreRedeliveriesSpec)

/-- ITS FALSE NEIGHBOUR: 'it returns false'. Refute it at one input. -/
def fnDeliveryPlacesIgnoreRedeliveriesWrong : ChangeSpec := { name := "fnDeliveryPlacesIgnoreRedeliveries", fn := fun _ => fun
  | [d1, d2, d3] => { results := [.lit (.bool false)], args := [d1, d2, d3] }
  | _ => none }
def FnDeliveryPlacesIgnoreRedeliveriesWrongFalsely : Prop := fnDeliveryPlacesIgnoreRedeliveriesRow.holds Try.pinned (OpenSpec.ofChange fnDeliveryPlacesIgnoreRedeliveriesWrong)

end Rows
end Go.Proofs.Qxb6601966a
