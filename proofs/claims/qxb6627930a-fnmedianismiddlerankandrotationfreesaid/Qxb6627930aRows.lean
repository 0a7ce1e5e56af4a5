/-
  No cell of these rows narrows 'for every input' (looked for: loops, veiled, ifaces, maps, wideKeys, modest, calm, conditions, laid).
  DERIVED. THE GIVEN ROWS OF THIS SEAT. 2 by the template 'for every input the law returns true; each argument reads behind the call as it read before'; 0 by the template 'total and deterministic' (their statements: Qxb6627930aTotals.lean).
  GIVEN WITH THE SEED: the statements are not yours to turn. If you find one false, say at which input.
  Laid BY PROGRAM, IN A SANDBOX (cutbox-rows.mjs): the forced cells as the released guide's own fill.sh prints them over the translation c21d5fd2237aa794… (all of the seat's roots in one cut). By AI agents, Wed Nov 11 2026. No macro, syntax, notation, axiom, sorry.
-/
import Derived.Test.Qxb6627930aChecked
import GoSem.Claim
import GoSem.ClaimJoined
import GoSem.ClaimMapViews
import Derived.JoinedTies
import Derived.KernelRfl
namespace Go.Proofs.Qxb6627930a
/- THE CELL 'sum', in the pinned program and in every row, IS THE sha256 OF THE DUMP (.gsa) THAT Qxb6627930aProg.lean LOADS. Nothing in Lean hashes anything: it is a label: what it is worth is what the hold of that sum in a sandbox is worth. -/
noncomputable def Try.pinned : Pinned := { name := "qxb6627930a", sum := "c21d5fd2237aa7942b7b6f79011a3cd0e468f4319ae4a0d4a5fe1f3469ada1da", checked := Try.checked }
namespace Rows
def none {H : Type} : Left H := { results := [], args := [] }

/-- 'zzlaws_internal_skiplocked_b1.FnMedianIsMiddleRankAndRotationFree': WHATEVER THE INPUT: true; the input reads as it did. -/
def fnMedianIsMiddleRankAndRotationFreeSpec : ChangeSpec := { name := "fnMedianIsMiddleRankAndRotationFree", fn := fun _ => fun
  | [d1, d2] => { results := [.lit (.bool true)], args := [d1, d2] }
  | _ => none }
def fnMedianIsMiddleRankAndRotationFreeRow : OpenClaim := { program := "qxb6627930a", sum := "c21d5fd2237aa7942b7b6f79011a3cd0e468f4319ae4a0d4a5fe1f3469ada1da", func := "example.com/rowhopper/rowhopper/zzlaws_internal_skiplocked_b1.FnMedianIsMiddleRankAndRotationFree", spec := "fnMedianIsMiddleRankAndRotationFree", unfollowed := true, recurses := true, apart := false }
def FnMedianIsMiddleRankAndRotationFreeSaid : Prop := fnMedianIsMiddleRankAndRotationFreeRow.holds Try.pinned (OpenSpec.ofChange fnMedianIsMiddleRankAndRotationFreeSpec)

/-- ITS FALSE NEIGHBOUR: 'it returns false'. Refute it at one input. -/
def fnMedianIsMiddleRankAndRotationFreeWrong : ChangeSpec := { name := "fnMedianIsMiddleRankAndRotationFree", fn := fun _ => fun
  | [d1, d2] => { results := [.lit (.bool false)], args := [d1, d2] }
  | _ => none }
def FnMedianIsMiddleRankAndRotationFreeWrongFalsely : Prop := fnMedianIsMiddleRankAndRotationFreeRow.holds Try.pinned (OpenSpec.ofChange fnMedianIsMiddleRankAndRotationFreeWrong)

/-- 'zzlaws_internal_skiplocked_b1.FnMedianMajorityWinsEvenPadded': WHATEVER THE INPUT: true; the input reads as it did. -/
def fnMedianMajorityWinsEvenPaddedSpec : ChangeSpec := { name := "fnMedianMajorityWinsEvenPadded", fn := fun _ => fun
  | [d1, d2, d3] => { results := [.lit (.bool true)], args := [d1, d2, d3] }
  | _ => none }
def fnMedianMajorityWinsEvenPaddedRow : OpenClaim := { program := "qxb6627930a", sum := "c21d5fd2237aa7942b7b6f79011a3cd0e468f4319ae4a0d4a5fe1f3469ada1da", func := "example.com/rowhopper/rowhopper/zzlaws_internal_skiplocked_b1.FnMedianMajorityWinsEvenPadded", spec := "fnMedianMajorityWinsEvenPadded", unfollowed := true, recurses := true, apart := false }
def FnMedianMajorityWinsEvenPaddedSaid : Prop := fnMedianMajorityWinsEvenPaddedRow.holds Try.pinned (OpenSpec.ofChange fnMedianMajorityWinsEvenPaddedSpec)

/-- ITS FALSE NEIGHBOUR: 'it returns false'. Refute it at one input. -/
def fnMedianMajorityWinsEvenPaddedWrong : ChangeSpec := { name := "fnMedianMajorityWinsEvenPadded", fn := fun _ => fun
  | [d1, d2, d3] => { results := [.lit (.bool false)], args := [d1, d2, d3] }
  | _ => none }
def FnMedianMajorityWinsEvenPaddedWrongFalsely : Prop := fnMedianMajorityWinsEvenPaddedRow.holds Try.pinned (OpenSpec.ofChange fnMedianMajorityWinsEvenPaddedWrong)

end Rows
end Go.Proofs.Qxb6627930a
