/-
  No cell of these rows narrows 'for every input' (looked for: loops, veiled, ifaces, maps, wideKeys, modest, calm, conditions, laid).
  DERIVED. THE GIVEN ROWS OF THIS SEAT. 2 by the template 'for every input the law returns true; each argument reads behind the call as it read before'; 0 by the template 'total and deterministic' (their statements: Qxb6618521aTotals.lean).
  GIVEN WITH THE SEED: the statements are not yours to turn. If you find one false, say at which input.
  Laid BY PROGRAM, IN A SANDBOX (cutbox-rows.mjs): the forced cells as the released guide's own fill.sh prints them over the translation 3f3eb55bbbdea292… (all of the seat's roots in one cut). By AI agents, Wed Nov 11 2026. No macro, syntax, notation, axiom, sorry.
-/
import Derived.Test.Qxb6618521aChecked
import GoSem.Claim
import GoSem.ClaimJoined
import GoSem.ClaimMapViews
import Derived.JoinedTies
import Derived.KernelRfl
namespace Go.Proofs.Qxb6618521a
/- THE CELL 'sum', in the pinned program and in every row, IS THE sha256 OF THE DUMP (.gsa) THAT Qxb6618521aProg.lean LOADS. Nothing in Lean hashes anything: it is a label: what it is worth is what the hold of that sum in a sandbox is worth. -/
noncomputable def Try.pinned : Pinned := { name := "qxb6618521a", sum := "3f3eb55bbbdea29269609e4362d48a374a6b3b4de032d4bf6baf2fd0a977ed11", checked := Try.checked }
namespace Rows
def none {H : Type} : Left H := { results := [], args := [] }

/-- 'zzlaws_internal_webhooktest_b1.FnKubeconfigSplicesFields': WHATEVER THE INPUT: true; the input reads as it did. -/
def fnKubeconfigSplicesFieldsSpec : ChangeSpec := { name := "fnKubeconfigSplicesFields", fn := fun _ => fun
  | [d1, d2] => { results := [.lit (.bool true)], args := [d1, d2] }
  | _ => none }
def fnKubeconfigSplicesFieldsRow : OpenClaim := { program := "qxb6618521a", sum := "3f3eb55bbbdea29269609e4362d48a374a6b3b4de032d4bf6baf2fd0a977ed11", func := "example.com/portcullis/portcullis/zzlaws_internal_webhooktest_b1.FnKubeconfigSplicesFields", spec := "fnKubeconfigSplicesFields", apart := false }
def FnKubeconfigSplicesFieldsSaid : Prop := fnKubeconfigSplicesFieldsRow.holds Try.pinned (OpenSpec.ofChange fnKubeconfigSplicesFieldsSpec)

/-- ITS FALSE NEIGHBOUR: 'it returns false'. Refute it at one input. -/
def fnKubeconfigSplicesFieldsWrong : ChangeSpec := { name := "fnKubeconfigSplicesFields", fn := fun _ => fun
  | [d1, d2] => { results := [.lit (.bool false)], args := [d1, d2] }
  | _ => none }
def FnKubeconfigSplicesFieldsWrongFalsely : Prop := fnKubeconfigSplicesFieldsRow.holds Try.pinned (OpenSpec.ofChange fnKubeconfigSplicesFieldsWrong)

/-- 'zzlaws_internal_webhooktest_b1.FnKubeconfigDistinguishesInputs': WHATEVER THE INPUT: true; the input reads as it did. -/
def fnKubeconfigDistinguishesInputsSpec : ChangeSpec := { name := "fnKubeconfigDistinguishesInputs", fn := fun _ => fun
  | [d1, d2, d3, d4] => { results := [.lit (.bool true)], args := [d1, d2, d3, d4] }
  | _ => none }
def fnKubeconfigDistinguishesInputsRow : OpenClaim := { program := "qxb6618521a", sum := "3f3eb55bbbdea29269609e4362d48a374a6b3b4de032d4bf6baf2fd0a977ed11", func := "example.com/portcullis/portcullis/zzlaws_internal_webhooktest_b1.FnKubeconfigDistinguishesInputs", spec := "fnKubeconfigDistinguishesInputs", apart := false }
def FnKubeconfigDistinguishesInputsSaid : Prop := fnKubeconfigDistinguishesInputsRow.holds Try.pinned (OpenSpec.ofChange fnKubeconfigDistinguishesInputsSpec)

/-- ITS FALSE NEIGHBOUR: 'it returns false'. Refute it at one input. -/
def fnKubeconfigDistinguishesInputsWrong : ChangeSpec := { name := "fnKubeconfigDistinguishesInputs", fn := fun _ => fun
  | [d1, d2, d3, d4] => { results := [.lit (.bool false)], args := [d1, d2, d3, d4] }
  | _ => none }
def FnKubeconfigDistinguishesInputsWrongFalsely : Prop := fnKubeconfigDistinguishesInputsRow.holds Try.pinned (OpenSpec.ofChange fnKubeconfigDistinguishesInputsWrong)

end Rows
end Go.Proofs.Qxb6618521a
