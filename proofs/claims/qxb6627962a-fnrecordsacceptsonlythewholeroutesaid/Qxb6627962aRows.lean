/-
  No cell of these rows narrows 'for every input' (looked for: loops, veiled, ifaces, maps, wideKeys, modest, calm, conditions, laid).
  DERIVED. THE GIVEN ROWS OF THIS SEAT. 2 by the template 'for every input the law returns true; each argument reads behind the call as it read before'; 0 by the template 'total and deterministic' (their statements: Qxb6627962aTotals.lean).
  GIVEN WITH THE SEED: the statements are not yours to turn. If you find one false, say at which input.
  Laid BY PROGRAM, IN A SANDBOX (cutbox-rows.mjs): the forced cells as the released guide's own fill.sh prints them over the translation adb3530656524cf2… (all of the seat's roots in one cut). By AI agents, Wed Nov 11 2026. No macro, syntax, notation, axiom, sorry.
-/
import Derived.Test.Qxb6627962aChecked
import GoSem.Claim
import GoSem.ClaimJoined
import GoSem.ClaimMapViews
import Derived.JoinedTies
import Derived.KernelRfl
namespace Go.Proofs.Qxb6627962a
/- THE CELL 'sum', in the pinned program and in every row, IS THE sha256 OF THE DUMP (.gsa) THAT Qxb6627962aProg.lean LOADS. Nothing in Lean hashes anything: it is a label: what it is worth is what the hold of that sum in a sandbox is worth. -/
noncomputable def Try.pinned : Pinned := { name := "qxb6627962a", sum := "adb3530656524cf262fbb86f030dff80493fb0eef3de1b3796eed8f6054a26e4", checked := Try.checked }
namespace Rows
def none {H : Type} : Left H := { results := [], args := [] }

/-- 'zzlaws_internal_api_b1.FnRecordsAcceptsOnlyTheWholeRoute': WHATEVER THE INPUT: true; the input reads as it did. -/
def fnRecordsAcceptsOnlyTheWholeRouteSpec : ChangeSpec := { name := "fnRecordsAcceptsOnlyTheWholeRoute", fn := fun _ => fun
  | [d1, d2, d3] => { results := [.lit (.bool true)], args := [d1, d2, d3] }
  | _ => none }
def fnRecordsAcceptsOnlyTheWholeRouteRow : OpenClaim := { program := "qxb6627962a", sum := "adb3530656524cf262fbb86f030dff80493fb0eef3de1b3796eed8f6054a26e4", func := "example.com/concordat/concordat/zzlaws_internal_api_b1.FnRecordsAcceptsOnlyTheWholeRoute", spec := "fnRecordsAcceptsOnlyTheWholeRoute", apart := false }
def FnRecordsAcceptsOnlyTheWholeRouteSaid : Prop := fnRecordsAcceptsOnlyTheWholeRouteRow.holds Try.pinned (OpenSpec.ofChange fnRecordsAcceptsOnlyTheWholeRouteSpec)

/-- ITS FALSE NEIGHBOUR: 'it returns false'. Refute it at one input. -/
def fnRecordsAcceptsOnlyTheWholeRouteWrong : ChangeSpec := { name := "fnRecordsAcceptsOnlyTheWholeRoute", fn := fun _ => fun
  | [d1, d2, d3] => { results := [.lit (.bool false)], args := [d1, d2, d3] }
  | _ => none }
def FnRecordsAcceptsOnlyTheWholeRouteWrongFalsely : Prop := fnRecordsAcceptsOnlyTheWholeRouteRow.holds Try.pinned (OpenSpec.ofChange fnRecordsAcceptsOnlyTheWholeRouteWrong)

/-- 'zzlaws_internal_api_b1.FnRecordsRefusesEveryOneByteChange': WHATEVER THE INPUT: true; the input reads as it did. -/
def fnRecordsRefusesEveryOneByteChangeSpec : ChangeSpec := { name := "fnRecordsRefusesEveryOneByteChange", fn := fun _ => fun
  | [d1, d2, d3] => { results := [.lit (.bool true)], args := [d1, d2, d3] }
  | _ => none }
def fnRecordsRefusesEveryOneByteChangeRow : OpenClaim := { program := "qxb6627962a", sum := "adb3530656524cf262fbb86f030dff80493fb0eef3de1b3796eed8f6054a26e4", func := "example.com/concordat/concordat/zzlaws_internal_api_b1.FnRecordsRefusesEveryOneByteChange", spec := "fnRecordsRefusesEveryOneByteChange", apart := false }
def FnRecordsRefusesEveryOneByteChangeSaid : Prop := fnRecordsRefusesEveryOneByteChangeRow.holds Try.pinned (OpenSpec.ofChange fnRecordsRefusesEveryOneByteChangeSpec)

/-- ITS FALSE NEIGHBOUR: 'it returns false'. Refute it at one input. -/
def fnRecordsRefusesEveryOneByteChangeWrong : ChangeSpec := { name := "fnRecordsRefusesEveryOneByteChange", fn := fun _ => fun
  | [d1, d2, d3] => { results := [.lit (.bool false)], args := [d1, d2, d3] }
  | _ => none }
def FnRecordsRefusesEveryOneByteChangeWrongFalsely : Prop := fnRecordsRefusesEveryOneByteChangeRow.holds Try.pinned (OpenSpec.ofChange fnRecordsRefusesEveryOneByteChangeWrong)

end Rows
end Go.Proofs.Qxb6627962a
