/-
  No cell of these rows narrows 'for every input' (looked for: loops, veiled, ifaces, maps, wideKeys, modest, calm, conditions, laid).
  DERIVED. THE GIVEN ROWS OF THIS SEAT. 2 by the template 'for every input the law returns true; each argument reads behind the call as it read before'; 0 by the template 'total and deterministic' (their statements: Qxb6627994aTotals.lean).
  GIVEN WITH THE SEED: the statements are not yours to turn. If you find one false, say at which input.
  Laid BY PROGRAM, IN A SANDBOX (cutbox-rows.mjs): the forced cells as the released guide's own fill.sh prints them over the translation 713e88b031f6d687… (all of the seat's roots in one cut). By AI agents, Wed Nov 11 2026. No macro, syntax, notation, axiom, sorry.
-/
import Derived.Test.Qxb6627994aChecked
import GoSem.Claim
import GoSem.ClaimJoined
import GoSem.ClaimMapViews
import Derived.JoinedTies
import Derived.KernelRfl
namespace Go.Proofs.Qxb6627994a
/- THE CELL 'sum', in the pinned program and in every row, IS THE sha256 OF THE DUMP (.gsa) THAT Qxb6627994aProg.lean LOADS. Nothing in Lean hashes anything: it is a label: what it is worth is what the hold of that sum in a sandbox is worth. -/
noncomputable def Try.pinned : Pinned := { name := "qxb6627994a", sum := "713e88b031f6d687972e25e783e4ec889cc78c77139214d6f36597dcc7cf15ef", checked := Try.checked }
namespace Rows
def none {H : Type} : Left H := { results := [], args := [] }

/-- 'zzlaws_root_b1.FnExpiryQueueDownMatchesSwapSiftDown': WHATEVER THE INPUT: true; the input reads as it did. -/
def fnExpiryQueueDownMatchesSwapSiftDownSpec : ChangeSpec := { name := "fnExpiryQueueDownMatchesSwapSiftDown", fn := fun _ => fun
  | [d1, d2, d3] => { results := [.lit (.bool true)], args := [d1, d2, d3] }
  | _ => none }
def fnExpiryQueueDownMatchesSwapSiftDownRow : OpenClaim := { program := "qxb6627994a", sum := "713e88b031f6d687972e25e783e4ec889cc78c77139214d6f36597dcc7cf15ef", func := "example.com/hearth/hearth/zzlaws_root_b1.FnExpiryQueueDownMatchesSwapSiftDown", spec := "fnExpiryQueueDownMatchesSwapSiftDown", apart := false }
def FnExpiryQueueDownMatchesSwapSiftDownSaid : Prop := fnExpiryQueueDownMatchesSwapSiftDownRow.holds Try.pinned (OpenSpec.ofChange fnExpiryQueueDownMatchesSwapSiftDownSpec)

/-- ITS FALSE NEIGHBOUR: 'it returns false'. Refute it at one input. -/
def fnExpiryQueueDownMatchesSwapSiftDownWrong : ChangeSpec := { name := "fnExpiryQueueDownMatchesSwapSiftDown", fn := fun _ => fun
  | [d1, d2, d3] => { results := [.lit (.bool false)], args := [d1, d2, d3] }
  | _ => none }
def FnExpiryQueueDownMatchesSwapSiftDownWrongFalsely : Prop := fnExpiryQueueDownMatchesSwapSiftDownRow.holds Try.pinned (OpenSpec.ofChange fnExpiryQueueDownMatchesSwapSiftDownWrong)

/-- 'zzlaws_root_b1.FnExpiryQueueDownHeapifyMakesHeapOfSameMarks': WHATEVER THE INPUT: true; the input reads as it did. -/
def fnExpiryQueueDownHeapifyMakesHeapOfSameMarksSpec : ChangeSpec := { name := "fnExpiryQueueDownHeapifyMakesHeapOfSameMarks", fn := fun _ => fun
  | [d1, d2] => { results := [.lit (.bool true)], args := [d1, d2] }
  | _ => none }
def fnExpiryQueueDownHeapifyMakesHeapOfSameMarksRow : OpenClaim := { program := "qxb6627994a", sum := "713e88b031f6d687972e25e783e4ec889cc78c77139214d6f36597dcc7cf15ef", func := "example.com/hearth/hearth/zzlaws_root_b1.FnExpiryQueueDownHeapifyMakesHeapOfSameMarks", spec := "fnExpiryQueueDownHeapifyMakesHeapOfSameMarks", apart := false }
def FnExpiryQueueDownHeapifyMakesHeapOfSameMarksSaid : Prop := fnExpiryQueueDownHeapifyMakesHeapOfSameMarksRow.holds Try.pinned (OpenSpec.ofChange fnExpiryQueueDownHeapifyMakesHeapOfSameMarksSpec)

/-- ITS FALSE NEIGHBOUR: 'it returns false'. Refute it at one input. -/
def fnExpiryQueueDownHeapifyMakesHeapOfSameMarksWrong : ChangeSpec := { name := "fnExpiryQueueDownHeapifyMakesHeapOfSameMarks", fn := fun _ => fun
  | [d1, d2] => { results := [.lit (.bool false)], args := [d1, d2] }
  | _ => none }
def FnExpiryQueueDownHeapifyMakesHeapOfSameMarksWrongFalsely : Prop := fnExpiryQueueDownHeapifyMakesHeapOfSameMarksRow.holds Try.pinned (OpenSpec.ofChange fnExpiryQueueDownHeapifyMakesHeapOfSameMarksWrong)

end Rows
end Go.Proofs.Qxb6627994a
