/-
  No cell of these rows narrows 'for every input' (looked for: loops, veiled, ifaces, maps, wideKeys, modest, calm, conditions, laid).
  DERIVED. THE GIVEN ROWS OF THIS SEAT. 2 by the template 'for every input the law returns true; each argument reads behind the call as it read before'; 0 by the template 'total and deterministic' (their statements: Qxb6634849aTotals.lean).
  GIVEN WITH THE SEED: the statements are not yours to turn. If you find one false, say at which input.
  Laid BY PROGRAM, IN A SANDBOX (cutbox-rows.mjs): the forced cells as the released guide's own fill.sh prints them over the translation 6f77e1a3f19dbb12… (all of the seat's roots in one cut). By AI agents, Wed Nov 11 2026. No macro, syntax, notation, axiom, sorry.
-/
import Derived.Test.Qxb6634849aChecked
import GoSem.Claim
import GoSem.ClaimJoined
import GoSem.ClaimMapViews
import Derived.JoinedTies
import Derived.KernelRfl
namespace Go.Proofs.Qxb6634849a
/- THE CELL 'sum', in the pinned program and in every row, IS THE sha256 OF THE DUMP (.gsa) THAT Qxb6634849aProg.lean LOADS. Nothing in Lean hashes anything: it is a label: what it is worth is what the hold of that sum in a sandbox is worth. -/
noncomputable def Try.pinned : Pinned := { name := "qxb6634849a", sum := "6f77e1a3f19dbb126efa66a2b95798298dbd4fed639ff680f3823f9475538019", checked := Try.checked }
namespace Rows
def none {H : Type} : Left H := { results := [], args := [] }

/-- 'zzlaws_internal_cluster_b1.FnPartitionMovesZeroCutPiece': WHATEVER THE INPUT: true; the input reads as it did. -/
def fnPartitionMovesZeroCutPieceSpec : ChangeSpec := { name := "fnPartitionMovesZeroCutPiece", fn := fun _ => fun
  | [d1, d2, d3] => { results := [.lit (.bool true)], args := [d1, d2, d3] }
  | _ => none }
def fnPartitionMovesZeroCutPieceRow : OpenClaim := { program := "qxb6634849a", sum := "6f77e1a3f19dbb126efa66a2b95798298dbd4fed639ff680f3823f9475538019", func := "example.com/tenon/tenon/zzlaws_internal_cluster_b1.FnPartitionMovesZeroCutPiece", spec := "fnPartitionMovesZeroCutPiece", apart := false }
def FnPartitionMovesZeroCutPieceSaid : Prop := fnPartitionMovesZeroCutPieceRow.holds Try.pinned (OpenSpec.ofChange fnPartitionMovesZeroCutPieceSpec)

/-- ITS FALSE NEIGHBOUR: 'it returns false'. Refute it at one input. -/
def fnPartitionMovesZeroCutPieceWrong : ChangeSpec := { name := "fnPartitionMovesZeroCutPiece", fn := fun _ => fun
  | [d1, d2, d3] => { results := [.lit (.bool false)], args := [d1, d2, d3] }
  | _ => none }
def FnPartitionMovesZeroCutPieceWrongFalsely : Prop := fnPartitionMovesZeroCutPieceRow.holds Try.pinned (OpenSpec.ofChange fnPartitionMovesZeroCutPieceWrong)

/-- 'zzlaws_internal_cluster_b1.FnPartitionSameAtEveryZeroCut': WHATEVER THE INPUT: true; the input reads as it did. -/
def fnPartitionSameAtEveryZeroCutSpec : ChangeSpec := { name := "fnPartitionSameAtEveryZeroCut", fn := fun _ => fun
  | [d1, d2] => { results := [.lit (.bool true)], args := [d1, d2] }
  | _ => none }
def fnPartitionSameAtEveryZeroCutRow : OpenClaim := { program := "qxb6634849a", sum := "6f77e1a3f19dbb126efa66a2b95798298dbd4fed639ff680f3823f9475538019", func := "example.com/tenon/tenon/zzlaws_internal_cluster_b1.FnPartitionSameAtEveryZeroCut", spec := "fnPartitionSameAtEveryZeroCut", apart := false }
def FnPartitionSameAtEveryZeroCutSaid : Prop := fnPartitionSameAtEveryZeroCutRow.holds Try.pinned (OpenSpec.ofChange fnPartitionSameAtEveryZeroCutSpec)

/-- ITS FALSE NEIGHBOUR: 'it returns false'. Refute it at one input. -/
def fnPartitionSameAtEveryZeroCutWrong : ChangeSpec := { name := "fnPartitionSameAtEveryZeroCut", fn := fun _ => fun
  | [d1, d2] => { results := [.lit (.bool false)], args := [d1, d2] }
  | _ => none }
def FnPartitionSameAtEveryZeroCutWrongFalsely : Prop := fnPartitionSameAtEveryZeroCutRow.holds Try.pinned (OpenSpec.ofChange fnPartitionSameAtEveryZeroCutWrong)

end Rows
end Go.Proofs.Qxb6634849a
