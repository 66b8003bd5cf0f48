/-
  No cell of these rows narrows 'for every input' (looked for: loops, veiled, ifaces, maps, wideKeys, modest, calm, conditions, laid).
  DERIVED. THE GIVEN ROWS OF THIS SEAT. 4 by the template 'for every input the law returns true; each argument reads behind the call as it read before'; 0 by the template 'total and deterministic' (their statements: Qxb6618596aTotals.lean).
  GIVEN WITH THE SEED: the statements are not yours to turn. If you find one false, say at which input.
  Laid BY PROGRAM, IN A SANDBOX (cutbox-rows.mjs): the forced cells as the released guide's own fill.sh prints them over the translation 99653cc8d5a7fdce… (all of the seat's roots in one cut). By AI agents, Wed Nov 11 2026. No macro, syntax, notation, axiom, sorry.
-/
import Derived.Test.Qxb6618596aChecked
import GoSem.Claim
import GoSem.ClaimJoined
import GoSem.ClaimMapViews
import Derived.JoinedTies
import Derived.KernelRfl
namespace Go.Proofs.Qxb6618596a
/- THE CELL 'sum', in the pinned program and in every row, IS THE sha256 OF THE DUMP (.gsa) THAT Qxb6618596aProg.lean LOADS. Nothing in Lean hashes anything: it is a label: what it is worth is what the hold of that sum in a sandbox is worth. -/
noncomputable def Try.pinned : Pinned := { name := "qxb6618596a", sum := "99653cc8d5a7fdcec5bdb0fe4a7a808ff9318ed79319923d449962b23a31b35d", checked := Try.checked }
namespace Rows
def none {H : Type} : Left H := { results := [], args := [] }

/-- 'zzlaws_internal_rx_b1.FnAnyOfHoldsExactlyWhereALiteralOccurs': WHATEVER THE INPUT: true; the input reads as it did. -/
def fnAnyOfHoldsExactlyWhereALiteralOccursSpec : ChangeSpec := { name := "fnAnyOfHoldsExactlyWhereALiteralOccurs", fn := fun _ => fun
  | [d1, d2] => { results := [.lit (.bool true)], args := [d1, d2] }
  | _ => none }
def fnAnyOfHoldsExactlyWhereALiteralOccursRow : OpenClaim := { program := "qxb6618596a", sum := "99653cc8d5a7fdcec5bdb0fe4a7a808ff9318ed79319923d449962b23a31b35d", func := "example.com/portcullis/portcullis/zzlaws_internal_rx_b1.FnAnyOfHoldsExactlyWhereALiteralOccurs", spec := "fnAnyOfHoldsExactlyWhereALiteralOccurs", recurses := true, apart := false }
def FnAnyOfHoldsExactlyWhereALiteralOccursSaid : Prop := fnAnyOfHoldsExactlyWhereALiteralOccursRow.holds Try.pinned (OpenSpec.ofChange fnAnyOfHoldsExactlyWhereALiteralOccursSpec)

/-- ITS FALSE NEIGHBOUR: 'it returns false'. Refute it at one input. -/
def fnAnyOfHoldsExactlyWhereALiteralOccursWrong : ChangeSpec := { name := "fnAnyOfHoldsExactlyWhereALiteralOccurs", fn := fun _ => fun
  | [d1, d2] => { results := [.lit (.bool false)], args := [d1, d2] }
  | _ => none }
def FnAnyOfHoldsExactlyWhereALiteralOccursWrongFalsely : Prop := fnAnyOfHoldsExactlyWhereALiteralOccursRow.holds Try.pinned (OpenSpec.ofChange fnAnyOfHoldsExactlyWhereALiteralOccursWrong)

/-- 'zzlaws_internal_rx_b1.FnAnyOfOfJoinedListsIsEitherList': WHATEVER THE INPUT: true; the input reads as it did. -/
def fnAnyOfOfJoinedListsIsEitherListSpec : ChangeSpec := { name := "fnAnyOfOfJoinedListsIsEitherList", fn := fun _ => fun
  | [d1, d2, d3] => { results := [.lit (.bool true)], args := [d1, d2, d3] }
  | _ => none }
def fnAnyOfOfJoinedListsIsEitherListRow : OpenClaim := { program := "qxb6618596a", sum := "99653cc8d5a7fdcec5bdb0fe4a7a808ff9318ed79319923d449962b23a31b35d", func := "example.com/portcullis/portcullis/zzlaws_internal_rx_b1.FnAnyOfOfJoinedListsIsEitherList", spec := "fnAnyOfOfJoinedListsIsEitherList", recurses := true, apart := false }
def FnAnyOfOfJoinedListsIsEitherListSaid : Prop := fnAnyOfOfJoinedListsIsEitherListRow.holds Try.pinned (OpenSpec.ofChange fnAnyOfOfJoinedListsIsEitherListSpec)

/-- ITS FALSE NEIGHBOUR: 'it returns false'. Refute it at one input. -/
def fnAnyOfOfJoinedListsIsEitherListWrong : ChangeSpec := { name := "fnAnyOfOfJoinedListsIsEitherList", fn := fun _ => fun
  | [d1, d2, d3] => { results := [.lit (.bool false)], args := [d1, d2, d3] }
  | _ => none }
def FnAnyOfOfJoinedListsIsEitherListWrongFalsely : Prop := fnAnyOfOfJoinedListsIsEitherListRow.holds Try.pinned (OpenSpec.ofChange fnAnyOfOfJoinedListsIsEitherListWrong)

/-- 'zzlaws_internal_rx_b1.FnLoad64ShiftsInAByteAtTheFront': WHATEVER THE INPUT: true; the input reads as it did. -/
def fnLoad64ShiftsInAByteAtTheFrontSpec : ChangeSpec := { name := "fnLoad64ShiftsInAByteAtTheFront", fn := fun _ => fun
  | [d1, d2] => { results := [.lit (.bool true)], args := [d1, d2] }
  | _ => none }
def fnLoad64ShiftsInAByteAtTheFrontRow : OpenClaim := { program := "qxb6618596a", sum := "99653cc8d5a7fdcec5bdb0fe4a7a808ff9318ed79319923d449962b23a31b35d", func := "example.com/portcullis/portcullis/zzlaws_internal_rx_b1.FnLoad64ShiftsInAByteAtTheFront", spec := "fnLoad64ShiftsInAByteAtTheFront", apart := false }
def FnLoad64ShiftsInAByteAtTheFrontSaid : Prop := fnLoad64ShiftsInAByteAtTheFrontRow.holds Try.pinned (OpenSpec.ofChange fnLoad64ShiftsInAByteAtTheFrontSpec)

/-- ITS FALSE NEIGHBOUR: 'it returns false'. Refute it at one input. -/
def fnLoad64ShiftsInAByteAtTheFrontWrong : ChangeSpec := { name := "fnLoad64ShiftsInAByteAtTheFront", fn := fun _ => fun
  | [d1, d2] => { results := [.lit (.bool false)], args := [d1, d2] }
  | _ => none }
def FnLoad64ShiftsInAByteAtTheFrontWrongFalsely : Prop := fnLoad64ShiftsInAByteAtTheFrontRow.holds Try.pinned (OpenSpec.ofChange fnLoad64ShiftsInAByteAtTheFrontWrong)

/-- 'zzlaws_internal_rx_b1.FnLoad64ReadsOnlyTheFirstEightBytes': WHATEVER THE INPUT: true; the input reads as it did. -/
def fnLoad64ReadsOnlyTheFirstEightBytesSpec : ChangeSpec := { name := "fnLoad64ReadsOnlyTheFirstEightBytes", fn := fun _ => fun
  | [d1, d2] => { results := [.lit (.bool true)], args := [d1, d2] }
  | _ => none }
def fnLoad64ReadsOnlyTheFirstEightBytesRow : OpenClaim := { program := "qxb6618596a", sum := "99653cc8d5a7fdcec5bdb0fe4a7a808ff9318ed79319923d449962b23a31b35d", func := "example.com/portcullis/portcullis/zzlaws_internal_rx_b1.FnLoad64ReadsOnlyTheFirstEightBytes", spec := "fnLoad64ReadsOnlyTheFirstEightBytes", apart := false }
def FnLoad64ReadsOnlyTheFirstEightBytesSaid : Prop := fnLoad64ReadsOnlyTheFirstEightBytesRow.holds Try.pinned (OpenSpec.ofChange fnLoad64ReadsOnlyTheFirstEightBytesSpec)

/-- ITS FALSE NEIGHBOUR: 'it returns false'. Refute it at one input. -/
def fnLoad64ReadsOnlyTheFirstEightBytesWrong : ChangeSpec := { name := "fnLoad64ReadsOnlyTheFirstEightBytes", fn := fun _ => fun
  | [d1, d2] => { results := [.lit (.bool false)], args := [d1, d2] }
  | _ => none }
def FnLoad64ReadsOnlyTheFirstEightBytesWrongFalsely : Prop := fnLoad64ReadsOnlyTheFirstEightBytesRow.holds Try.pinned (OpenSpec.ofChange fnLoad64ReadsOnlyTheFirstEightBytesWrong)

end Rows
end Go.Proofs.Qxb6618596a
