/-
  No cell of these rows narrows 'for every input' (looked for: loops, veiled, ifaces, maps, wideKeys, modest, calm, conditions, laid).
  DERIVED. THE GIVEN ROWS OF THIS SEAT. 6 by the template 'for every input the law returns true; each argument reads behind the call as it read before'; 0 by the template 'total and deterministic' (their statements: Qxb6617077aTotals.lean).
  GIVEN WITH THE SEED: the statements are not yours to turn. If you find one false, say at which input.
  Laid BY PROGRAM, IN A SANDBOX (cutbox-rows.mjs): the forced cells as the released guide's own fill.sh prints them over the translation 191ce9579d597414… (all of the seat's roots in one cut). By AI agents, Wed Nov 11 2026. No macro, syntax, notation, axiom, sorry.
-/
import Derived.Test.Qxb6617077aChecked
import GoSem.Claim
import GoSem.ClaimJoined
import GoSem.ClaimMapViews
import Derived.JoinedTies
import Derived.KernelRfl
namespace Go.Proofs.Qxb6617077a
/- THE CELL 'sum', in the pinned program and in every row, IS THE sha256 OF THE DUMP (.gsa) THAT Qxb6617077aProg.lean LOADS. Nothing in Lean hashes anything: it is a label: what it is worth is what the hold of that sum in a sandbox is worth. -/
noncomputable def Try.pinned : Pinned := { name := "qxb6617077a", sum := "191ce9579d597414635b22b0a2c428dc2579b3774786df4ded79c308c36a1dc0", checked := Try.checked }
namespace Rows
def none {H : Type} : Left H := { results := [], args := [] }

/-- 'zzlaws_internal_node_b1.FnPointedNonHoldersBeforeALaterHolder': WHATEVER THE INPUT: true; the input reads as it did. -/
def fnPointedNonHoldersBeforeALaterHolderSpec : ChangeSpec := { name := "fnPointedNonHoldersBeforeALaterHolder", fn := fun _ => fun
  | [d1, d2] => { results := [.lit (.bool true)], args := [d1, d2] }
  | _ => none }
def fnPointedNonHoldersBeforeALaterHolderRow : OpenClaim := { program := "qxb6617077a", sum := "191ce9579d597414635b22b0a2c428dc2579b3774786df4ded79c308c36a1dc0", func := "example.com/halyard/halyard/zzlaws_internal_node_b1.FnPointedNonHoldersBeforeALaterHolder", spec := "fnPointedNonHoldersBeforeALaterHolder", apart := false }
def FnPointedNonHoldersBeforeALaterHolderSaid : Prop := fnPointedNonHoldersBeforeALaterHolderRow.holds Try.pinned (OpenSpec.ofChange fnPointedNonHoldersBeforeALaterHolderSpec)

/-- ITS FALSE NEIGHBOUR: 'it returns false'. Refute it at one input. -/
def fnPointedNonHoldersBeforeALaterHolderWrong : ChangeSpec := { name := "fnPointedNonHoldersBeforeALaterHolder", fn := fun _ => fun
  | [d1, d2] => { results := [.lit (.bool false)], args := [d1, d2] }
  | _ => none }
def FnPointedNonHoldersBeforeALaterHolderWrongFalsely : Prop := fnPointedNonHoldersBeforeALaterHolderRow.holds Try.pinned (OpenSpec.ofChange fnPointedNonHoldersBeforeALaterHolderWrong)

/-- 'zzlaws_internal_node_b1.FnPointedAtTheFarEnd': WHATEVER THE INPUT: true; the input reads as it did. -/
def fnPointedAtTheFarEndSpec : ChangeSpec := { name := "fnPointedAtTheFarEnd", fn := fun _ => fun
  | [d1, d2, d3, d4] => { results := [.lit (.bool true)], args := [d1, d2, d3, d4] }
  | _ => none }
def fnPointedAtTheFarEndRow : OpenClaim := { program := "qxb6617077a", sum := "191ce9579d597414635b22b0a2c428dc2579b3774786df4ded79c308c36a1dc0", func := "example.com/halyard/halyard/zzlaws_internal_node_b1.FnPointedAtTheFarEnd", spec := "fnPointedAtTheFarEnd", apart := false }
def FnPointedAtTheFarEndSaid : Prop := fnPointedAtTheFarEndRow.holds Try.pinned (OpenSpec.ofChange fnPointedAtTheFarEndSpec)

/-- ITS FALSE NEIGHBOUR: 'it returns false'. Refute it at one input. -/
def fnPointedAtTheFarEndWrong : ChangeSpec := { name := "fnPointedAtTheFarEnd", fn := fun _ => fun
  | [d1, d2, d3, d4] => { results := [.lit (.bool false)], args := [d1, d2, d3, d4] }
  | _ => none }
def FnPointedAtTheFarEndWrongFalsely : Prop := fnPointedAtTheFarEndRow.holds Try.pinned (OpenSpec.ofChange fnPointedAtTheFarEndWrong)

/-- 'zzlaws_internal_node_b1.FnMeetsOlderFollowsStampOrder': WHATEVER THE INPUT: true; the input reads as it did. -/
def fnMeetsOlderFollowsStampOrderSpec : ChangeSpec := { name := "fnMeetsOlderFollowsStampOrder", fn := fun _ => fun
  | [d1, d2, d3, d4, d5, d6] => { results := [.lit (.bool true)], args := [d1, d2, d3, d4, d5, d6] }
  | _ => none }
def fnMeetsOlderFollowsStampOrderRow : OpenClaim := { program := "qxb6617077a", sum := "191ce9579d597414635b22b0a2c428dc2579b3774786df4ded79c308c36a1dc0", func := "example.com/halyard/halyard/zzlaws_internal_node_b1.FnMeetsOlderFollowsStampOrder", spec := "fnMeetsOlderFollowsStampOrder", apart := false }
def FnMeetsOlderFollowsStampOrderSaid : Prop := fnMeetsOlderFollowsStampOrderRow.holds Try.pinned (OpenSpec.ofChange fnMeetsOlderFollowsStampOrderSpec)

/-- ITS FALSE NEIGHBOUR: 'it returns false'. Refute it at one input. -/
def fnMeetsOlderFollowsStampOrderWrong : ChangeSpec := { name := "fnMeetsOlderFollowsStampOrder", fn := fun _ => fun
  | [d1, d2, d3, d4, d5, d6] => { results := [.lit (.bool false)], args := [d1, d2, d3, d4, d5, d6] }
  | _ => none }
def FnMeetsOlderFollowsStampOrderWrongFalsely : Prop := fnMeetsOlderFollowsStampOrderRow.holds Try.pinned (OpenSpec.ofChange fnMeetsOlderFollowsStampOrderWrong)

/-- 'zzlaws_internal_node_b1.FnMeetsExactAsksAreExact': WHATEVER THE INPUT: true; the input reads as it did. -/
def fnMeetsExactAsksAreExactSpec : ChangeSpec := { name := "fnMeetsExactAsksAreExact", fn := fun _ => fun
  | [d1, d2, d3, d4, d5, d6, d7] => { results := [.lit (.bool true)], args := [d1, d2, d3, d4, d5, d6, d7] }
  | _ => none }
def fnMeetsExactAsksAreExactRow : OpenClaim := { program := "qxb6617077a", sum := "191ce9579d597414635b22b0a2c428dc2579b3774786df4ded79c308c36a1dc0", func := "example.com/halyard/halyard/zzlaws_internal_node_b1.FnMeetsExactAsksAreExact", spec := "fnMeetsExactAsksAreExact", apart := false }
def FnMeetsExactAsksAreExactSaid : Prop := fnMeetsExactAsksAreExactRow.holds Try.pinned (OpenSpec.ofChange fnMeetsExactAsksAreExactSpec)

/-- ITS FALSE NEIGHBOUR: 'it returns false'. Refute it at one input. -/
def fnMeetsExactAsksAreExactWrong : ChangeSpec := { name := "fnMeetsExactAsksAreExact", fn := fun _ => fun
  | [d1, d2, d3, d4, d5, d6, d7] => { results := [.lit (.bool false)], args := [d1, d2, d3, d4, d5, d6, d7] }
  | _ => none }
def FnMeetsExactAsksAreExactWrongFalsely : Prop := fnMeetsExactAsksAreExactRow.holds Try.pinned (OpenSpec.ofChange fnMeetsExactAsksAreExactWrong)

/-- 'zzlaws_internal_node_b1.FnLaidOutIsEachKeeperInTurn': WHATEVER THE INPUT: true; the input reads as it did. -/
def fnLaidOutIsEachKeeperInTurnSpec : ChangeSpec := { name := "fnLaidOutIsEachKeeperInTurn", fn := fun _ => fun
  | [d1, d2, d3, d4, d5] => { results := [.lit (.bool true)], args := [d1, d2, d3, d4, d5] }
  | _ => none }
def fnLaidOutIsEachKeeperInTurnRow : OpenClaim := { program := "qxb6617077a", sum := "191ce9579d597414635b22b0a2c428dc2579b3774786df4ded79c308c36a1dc0", func := "example.com/halyard/halyard/zzlaws_internal_node_b1.FnLaidOutIsEachKeeperInTurn", spec := "fnLaidOutIsEachKeeperInTurn", apart := false }
def FnLaidOutIsEachKeeperInTurnSaid : Prop := fnLaidOutIsEachKeeperInTurnRow.holds Try.pinned (OpenSpec.ofChange fnLaidOutIsEachKeeperInTurnSpec)

/-- ITS FALSE NEIGHBOUR: 'it returns false'. Refute it at one input. -/
def fnLaidOutIsEachKeeperInTurnWrong : ChangeSpec := { name := "fnLaidOutIsEachKeeperInTurn", fn := fun _ => fun
  | [d1, d2, d3, d4, d5] => { results := [.lit (.bool false)], args := [d1, d2, d3, d4, d5] }
  | _ => none }
def FnLaidOutIsEachKeeperInTurnWrongFalsely : Prop := fnLaidOutIsEachKeeperInTurnRow.holds Try.pinned (OpenSpec.ofChange fnLaidOutIsEachKeeperInTurnWrong)

/-- 'zzlaws_internal_node_b1.FnLaidOutRefusesEachFault': WHATEVER THE INPUT: true; the input reads as it did. -/
def fnLaidOutRefusesEachFaultSpec : ChangeSpec := { name := "fnLaidOutRefusesEachFault", fn := fun _ => fun
  | [d1, d2, d3, d4, d5] => { results := [.lit (.bool true)], args := [d1, d2, d3, d4, d5] }
  | _ => none }
def fnLaidOutRefusesEachFaultRow : OpenClaim := { program := "qxb6617077a", sum := "191ce9579d597414635b22b0a2c428dc2579b3774786df4ded79c308c36a1dc0", func := "example.com/halyard/halyard/zzlaws_internal_node_b1.FnLaidOutRefusesEachFault", spec := "fnLaidOutRefusesEachFault", apart := false }
def FnLaidOutRefusesEachFaultSaid : Prop := fnLaidOutRefusesEachFaultRow.holds Try.pinned (OpenSpec.ofChange fnLaidOutRefusesEachFaultSpec)

/-- ITS FALSE NEIGHBOUR: 'it returns false'. Refute it at one input. -/
def fnLaidOutRefusesEachFaultWrong : ChangeSpec := { name := "fnLaidOutRefusesEachFault", fn := fun _ => fun
  | [d1, d2, d3, d4, d5] => { results := [.lit (.bool false)], args := [d1, d2, d3, d4, d5] }
  | _ => none }
def FnLaidOutRefusesEachFaultWrongFalsely : Prop := fnLaidOutRefusesEachFaultRow.holds Try.pinned (OpenSpec.ofChange fnLaidOutRefusesEachFaultWrong)

end Rows
end Go.Proofs.Qxb6617077a
