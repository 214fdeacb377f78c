/-
  No cell of these rows narrows 'for every input' (looked for: loops, veiled, ifaces, maps, wideKeys, modest, calm, conditions, laid).
  DERIVED. THE GIVEN ROWS OF THIS SEAT. 3 by the template 'for every input the law returns true; each argument reads behind the call as it read before'; 0 by the template 'total and deterministic' (their statements: Qxb6619632aTotals.lean).
  GIVEN WITH THE SEED: the statements are not yours to turn. If you find one false, say at which input.
  Laid BY PROGRAM, IN A SANDBOX (cutbox-rows.mjs): the forced cells as the released guide's own fill.sh prints them over the translation ca4dd7df34c2a2d4… (all of the seat's roots in one cut). By AI agents, Wed Nov 11 2026. No macro, syntax, notation, axiom, sorry.
-/
import Derived.Test.Qxb6619632aChecked
import GoSem.Claim
import GoSem.ClaimJoined
import GoSem.ClaimMapViews
import Derived.JoinedTies
import Derived.KernelRfl
namespace Go.Proofs.Qxb6619632a
/- THE CELL 'sum', in the pinned program and in every row, IS THE sha256 OF THE DUMP (.gsa) THAT Qxb6619632aProg.lean LOADS. Nothing in Lean hashes anything: it is a label: what it is worth is what the hold of that sum in a sandbox is worth. -/
noncomputable def Try.pinned : Pinned := { name := "qxb6619632a", sum := "ca4dd7df34c2a2d4fba27d69a7d524d5ac483c5059e99feb77958208b2c6eb78", checked := Try.checked }
namespace Rows
def none {H : Type} : Left H := { results := [], args := [] }

/-- 'zzlaws_pkg_sim_b1.FnMeasureResultDifferencesGiveBackReceipts': WHATEVER THE INPUT: true; the input reads as it did. -/
def fnMeasureResultDifferencesGiveBackReceiptsSpec : ChangeSpec := { name := "fnMeasureResultDifferencesGiveBackReceipts", fn := fun _ => fun
  | [d1, d2, d3, d4, d5] => { results := [.lit (.bool true)], args := [d1, d2, d3, d4, d5] }
  | _ => none }
def fnMeasureResultDifferencesGiveBackReceiptsRow : OpenClaim := { program := "qxb6619632a", sum := "ca4dd7df34c2a2d4fba27d69a7d524d5ac483c5059e99feb77958208b2c6eb78", func := "example.com/cyclecast/cyclecast/zzlaws_pkg_sim_b1.FnMeasureResultDifferencesGiveBackReceipts", spec := "fnMeasureResultDifferencesGiveBackReceipts", apart := false }
def FnMeasureResultDifferencesGiveBackReceiptsSaid : Prop := fnMeasureResultDifferencesGiveBackReceiptsRow.holds Try.pinned (OpenSpec.ofChange fnMeasureResultDifferencesGiveBackReceiptsSpec)

/-- ITS FALSE NEIGHBOUR: 'it returns false'. Refute it at one input. -/
def fnMeasureResultDifferencesGiveBackReceiptsWrong : ChangeSpec := { name := "fnMeasureResultDifferencesGiveBackReceipts", fn := fun _ => fun
  | [d1, d2, d3, d4, d5] => { results := [.lit (.bool false)], args := [d1, d2, d3, d4, d5] }
  | _ => none }
def FnMeasureResultDifferencesGiveBackReceiptsWrongFalsely : Prop := fnMeasureResultDifferencesGiveBackReceiptsRow.holds Try.pinned (OpenSpec.ofChange fnMeasureResultDifferencesGiveBackReceiptsWrong)

/-- 'zzlaws_pkg_sim_b1.FnMeasureResultAgreesAcrossAnyCut': WHATEVER THE INPUT: true; the input reads as it did. -/
def fnMeasureResultAgreesAcrossAnyCutSpec : ChangeSpec := { name := "fnMeasureResultAgreesAcrossAnyCut", fn := fun _ => fun
  | [d1, d2, d3, d4] => { results := [.lit (.bool true)], args := [d1, d2, d3, d4] }
  | _ => none }
def fnMeasureResultAgreesAcrossAnyCutRow : OpenClaim := { program := "qxb6619632a", sum := "ca4dd7df34c2a2d4fba27d69a7d524d5ac483c5059e99feb77958208b2c6eb78", func := "example.com/cyclecast/cyclecast/zzlaws_pkg_sim_b1.FnMeasureResultAgreesAcrossAnyCut", spec := "fnMeasureResultAgreesAcrossAnyCut", apart := false }
def FnMeasureResultAgreesAcrossAnyCutSaid : Prop := fnMeasureResultAgreesAcrossAnyCutRow.holds Try.pinned (OpenSpec.ofChange fnMeasureResultAgreesAcrossAnyCutSpec)

/-- ITS FALSE NEIGHBOUR: 'it returns false'. Refute it at one input. -/
def fnMeasureResultAgreesAcrossAnyCutWrong : ChangeSpec := { name := "fnMeasureResultAgreesAcrossAnyCut", fn := fun _ => fun
  | [d1, d2, d3, d4] => { results := [.lit (.bool false)], args := [d1, d2, d3, d4] }
  | _ => none }
def FnMeasureResultAgreesAcrossAnyCutWrongFalsely : Prop := fnMeasureResultAgreesAcrossAnyCutRow.holds Try.pinned (OpenSpec.ofChange fnMeasureResultAgreesAcrossAnyCutWrong)

/-- 'zzlaws_pkg_sim_b1.FnNewPeerHoldingsStartsEmptyWithRoomForEveryChunk': WHATEVER THE INPUT: true; the input reads as it did. -/
def fnNewPeerHoldingsStartsEmptyWithRoomForEveryChunkSpec : ChangeSpec := { name := "fnNewPeerHoldingsStartsEmptyWithRoomForEveryChunk", fn := fun _ => fun
  | [d1, d2] => { results := [.lit (.bool true)], args := [d1, d2] }
  | _ => none }
def fnNewPeerHoldingsStartsEmptyWithRoomForEveryChunkRow : OpenClaim := { program := "qxb6619632a", sum := "ca4dd7df34c2a2d4fba27d69a7d524d5ac483c5059e99feb77958208b2c6eb78", func := "example.com/cyclecast/cyclecast/zzlaws_pkg_sim_b1.FnNewPeerHoldingsStartsEmptyWithRoomForEveryChunk", spec := "fnNewPeerHoldingsStartsEmptyWithRoomForEveryChunk", apart := false }
def FnNewPeerHoldingsStartsEmptyWithRoomForEveryChunkSaid : Prop := fnNewPeerHoldingsStartsEmptyWithRoomForEveryChunkRow.holds Try.pinned (OpenSpec.ofChange fnNewPeerHoldingsStartsEmptyWithRoomForEveryChunkSpec)

/-- ITS FALSE NEIGHBOUR: 'it returns false'. Refute it at one input. -/
def fnNewPeerHoldingsStartsEmptyWithRoomForEveryChunkWrong : ChangeSpec := { name := "fnNewPeerHoldingsStartsEmptyWithRoomForEveryChunk", fn := fun _ => fun
  | [d1, d2] => { results := [.lit (.bool false)], args := [d1, d2] }
  | _ => none }
def FnNewPeerHoldingsStartsEmptyWithRoomForEveryChunkWrongFalsely : Prop := fnNewPeerHoldingsStartsEmptyWithRoomForEveryChunkRow.holds Try.pinned (OpenSpec.ofChange fnNewPeerHoldingsStartsEmptyWithRoomForEveryChunkWrong)

end Rows
end Go.Proofs.Qxb6619632a
