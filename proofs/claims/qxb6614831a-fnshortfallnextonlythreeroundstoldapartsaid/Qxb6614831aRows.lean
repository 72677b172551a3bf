/-
  No cell of these rows narrows 'for every input' (looked for: loops, veiled, ifaces, maps, wideKeys, modest, calm, conditions, laid).
  DERIVED. THE GIVEN ROWS OF THIS SEAT. 7 by the template 'for every input the law returns true; each argument reads behind the call as it read before'; 0 by the template 'total and deterministic' (their statements: Qxb6614831aTotals.lean).
  GIVEN WITH THE SEED: the statements are not yours to turn. If you find one false, say at which input.
  Laid BY PROGRAM, IN A SANDBOX (cutbox-rows.mjs): the forced cells as the released guide's own fill.sh prints them over the translation 562c2d9e8527124f… (all of the seat's roots in one cut). By AI agents, Wed Nov 11 2026. No macro, syntax, notation, axiom, sorry.
-/
import Derived.Test.Qxb6614831aChecked
import GoSem.Claim
import GoSem.ClaimJoined
import GoSem.ClaimMapViews
import Derived.JoinedTies
import Derived.KernelRfl
namespace Go.Proofs.Qxb6614831a
/- THE CELL 'sum', in the pinned program and in every row, IS THE sha256 OF THE DUMP (.gsa) THAT Qxb6614831aProg.lean LOADS. Nothing in Lean hashes anything: it is a label: what it is worth is what the hold of that sum in a sandbox is worth. -/
noncomputable def Try.pinned : Pinned := { name := "qxb6614831a", sum := "562c2d9e8527124f3518bb944642a71454a0ec05b13acd4e83275e93b9f1c87d", checked := Try.checked }
namespace Rows
def none {H : Type} : Left H := { results := [], args := [] }

/-- 'zzlaws_pkg_tally_b1.FnMoreThanTwoThirdsExactAndScaleFree': WHATEVER THE INPUT: true; the input reads as it did. -/
def fnMoreThanTwoThirdsExactAndScaleFreeSpec : ChangeSpec := { name := "fnMoreThanTwoThirdsExactAndScaleFree", fn := fun _ => fun
  | [d1, d2, d3] => { results := [.lit (.bool true)], args := [d1, d2, d3] }
  | _ => none }
def fnMoreThanTwoThirdsExactAndScaleFreeRow : OpenClaim := { program := "qxb6614831a", sum := "562c2d9e8527124f3518bb944642a71454a0ec05b13acd4e83275e93b9f1c87d", func := "example.com/tallyseat/tallyseat/zzlaws_pkg_tally_b1.FnMoreThanTwoThirdsExactAndScaleFree", spec := "fnMoreThanTwoThirdsExactAndScaleFree", apart := false }
def FnMoreThanTwoThirdsExactAndScaleFreeSaid : Prop := fnMoreThanTwoThirdsExactAndScaleFreeRow.holds Try.pinned (OpenSpec.ofChange fnMoreThanTwoThirdsExactAndScaleFreeSpec)

/-- ITS FALSE NEIGHBOUR: 'it returns false'. Refute it at one input. -/
def fnMoreThanTwoThirdsExactAndScaleFreeWrong : ChangeSpec := { name := "fnMoreThanTwoThirdsExactAndScaleFree", fn := fun _ => fun
  | [d1, d2, d3] => { results := [.lit (.bool false)], args := [d1, d2, d3] }
  | _ => none }
def FnMoreThanTwoThirdsExactAndScaleFreeWrongFalsely : Prop := fnMoreThanTwoThirdsExactAndScaleFreeRow.holds Try.pinned (OpenSpec.ofChange fnMoreThanTwoThirdsExactAndScaleFreeWrong)

/-- 'zzlaws_pkg_tally_b1.FnMoreThanTwoThirdsThresholdAndOrder': WHATEVER THE INPUT: true; the input reads as it did. -/
def fnMoreThanTwoThirdsThresholdAndOrderSpec : ChangeSpec := { name := "fnMoreThanTwoThirdsThresholdAndOrder", fn := fun _ => fun
  | [d1, d2, d3, d4] => { results := [.lit (.bool true)], args := [d1, d2, d3, d4] }
  | _ => none }
def fnMoreThanTwoThirdsThresholdAndOrderRow : OpenClaim := { program := "qxb6614831a", sum := "562c2d9e8527124f3518bb944642a71454a0ec05b13acd4e83275e93b9f1c87d", func := "example.com/tallyseat/tallyseat/zzlaws_pkg_tally_b1.FnMoreThanTwoThirdsThresholdAndOrder", spec := "fnMoreThanTwoThirdsThresholdAndOrder", apart := false }
def FnMoreThanTwoThirdsThresholdAndOrderSaid : Prop := fnMoreThanTwoThirdsThresholdAndOrderRow.holds Try.pinned (OpenSpec.ofChange fnMoreThanTwoThirdsThresholdAndOrderSpec)

/-- ITS FALSE NEIGHBOUR: 'it returns false'. Refute it at one input. -/
def fnMoreThanTwoThirdsThresholdAndOrderWrong : ChangeSpec := { name := "fnMoreThanTwoThirdsThresholdAndOrder", fn := fun _ => fun
  | [d1, d2, d3, d4] => { results := [.lit (.bool false)], args := [d1, d2, d3, d4] }
  | _ => none }
def FnMoreThanTwoThirdsThresholdAndOrderWrongFalsely : Prop := fnMoreThanTwoThirdsThresholdAndOrderRow.holds Try.pinned (OpenSpec.ofChange fnMoreThanTwoThirdsThresholdAndOrderWrong)

/-- 'zzlaws_pkg_tally_b1.FnShortfallNextNoFurtherRoundWithoutCandidate': WHATEVER THE INPUT: true; the input reads as it did. -/
def fnShortfallNextNoFurtherRoundWithoutCandidateSpec : ChangeSpec := { name := "fnShortfallNextNoFurtherRoundWithoutCandidate", fn := fun _ => fun
  | [d1, d2, d3, d4] => { results := [.lit (.bool true)], args := [d1, d2, d3, d4] }
  | _ => none }
def fnShortfallNextNoFurtherRoundWithoutCandidateRow : OpenClaim := { program := "qxb6614831a", sum := "562c2d9e8527124f3518bb944642a71454a0ec05b13acd4e83275e93b9f1c87d", func := "example.com/tallyseat/tallyseat/zzlaws_pkg_tally_b1.FnShortfallNextNoFurtherRoundWithoutCandidate", spec := "fnShortfallNextNoFurtherRoundWithoutCandidate", apart := false }
def FnShortfallNextNoFurtherRoundWithoutCandidateSaid : Prop := fnShortfallNextNoFurtherRoundWithoutCandidateRow.holds Try.pinned (OpenSpec.ofChange fnShortfallNextNoFurtherRoundWithoutCandidateSpec)

/-- ITS FALSE NEIGHBOUR: 'it returns false'. Refute it at one input. -/
def fnShortfallNextNoFurtherRoundWithoutCandidateWrong : ChangeSpec := { name := "fnShortfallNextNoFurtherRoundWithoutCandidate", fn := fun _ => fun
  | [d1, d2, d3, d4] => { results := [.lit (.bool false)], args := [d1, d2, d3, d4] }
  | _ => none }
def FnShortfallNextNoFurtherRoundWithoutCandidateWrongFalsely : Prop := fnShortfallNextNoFurtherRoundWithoutCandidateRow.holds Try.pinned (OpenSpec.ofChange fnShortfallNextNoFurtherRoundWithoutCandidateWrong)

/-- 'zzlaws_pkg_tally_b1.FnShortfallNextOnlyThreeRoundsToldApart': WHATEVER THE INPUT: true; the input reads as it did. -/
def fnShortfallNextOnlyThreeRoundsToldApartSpec : ChangeSpec := { name := "fnShortfallNextOnlyThreeRoundsToldApart", fn := fun _ => fun
  | [d1, d2, d3, d4, d5] => { results := [.lit (.bool true)], args := [d1, d2, d3, d4, d5] }
  | _ => none }
def fnShortfallNextOnlyThreeRoundsToldApartRow : OpenClaim := { program := "qxb6614831a", sum := "562c2d9e8527124f3518bb944642a71454a0ec05b13acd4e83275e93b9f1c87d", func := "example.com/tallyseat/tallyseat/zzlaws_pkg_tally_b1.FnShortfallNextOnlyThreeRoundsToldApart", spec := "fnShortfallNextOnlyThreeRoundsToldApart", apart := false }
def FnShortfallNextOnlyThreeRoundsToldApartSaid : Prop := fnShortfallNextOnlyThreeRoundsToldApartRow.holds Try.pinned (OpenSpec.ofChange fnShortfallNextOnlyThreeRoundsToldApartSpec)

/-- ITS FALSE NEIGHBOUR: 'it returns false'. Refute it at one input. -/
def fnShortfallNextOnlyThreeRoundsToldApartWrong : ChangeSpec := { name := "fnShortfallNextOnlyThreeRoundsToldApart", fn := fun _ => fun
  | [d1, d2, d3, d4, d5] => { results := [.lit (.bool false)], args := [d1, d2, d3, d4, d5] }
  | _ => none }
def FnShortfallNextOnlyThreeRoundsToldApartWrongFalsely : Prop := fnShortfallNextOnlyThreeRoundsToldApartRow.holds Try.pinned (OpenSpec.ofChange fnShortfallNextOnlyThreeRoundsToldApartWrong)

/-- 'zzlaws_pkg_tally_b1.FnChunkWriterAvailableBufferAppendsInPlace': WHATEVER THE INPUT: true; the input reads as it did. -/
def fnChunkWriterAvailableBufferAppendsInPlaceSpec : ChangeSpec := { name := "fnChunkWriterAvailableBufferAppendsInPlace", fn := fun _ => fun
  | [d] => { results := [.lit (.bool true)], args := [d] }
  | _ => none }
def fnChunkWriterAvailableBufferAppendsInPlaceRow : OpenClaim := { program := "qxb6614831a", sum := "562c2d9e8527124f3518bb944642a71454a0ec05b13acd4e83275e93b9f1c87d", func := "example.com/tallyseat/tallyseat/zzlaws_pkg_tally_b1.FnChunkWriterAvailableBufferAppendsInPlace", spec := "fnChunkWriterAvailableBufferAppendsInPlace", unfollowed := true, recurses := true, apart := false }
def FnChunkWriterAvailableBufferAppendsInPlaceSaid : Prop := fnChunkWriterAvailableBufferAppendsInPlaceRow.holds Try.pinned (OpenSpec.ofChange fnChunkWriterAvailableBufferAppendsInPlaceSpec)

/-- ITS FALSE NEIGHBOUR: 'it returns false'. Refute it at one input. -/
def fnChunkWriterAvailableBufferAppendsInPlaceWrong : ChangeSpec := { name := "fnChunkWriterAvailableBufferAppendsInPlace", fn := fun _ => fun
  | [d] => { results := [.lit (.bool false)], args := [d] }
  | _ => none }
def FnChunkWriterAvailableBufferAppendsInPlaceWrongFalsely : Prop := fnChunkWriterAvailableBufferAppendsInPlaceRow.holds Try.pinned (OpenSpec.ofChange fnChunkWriterAvailableBufferAppendsInPlaceWrong)

/-- 'zzlaws_pkg_tally_b1.FnChunkWriterAvailableBufferReusesDroppedRoom': WHATEVER THE INPUT: true; the input reads as it did. -/
def fnChunkWriterAvailableBufferReusesDroppedRoomSpec : ChangeSpec := { name := "fnChunkWriterAvailableBufferReusesDroppedRoom", fn := fun _ => fun
  | [d1, d2] => { results := [.lit (.bool true)], args := [d1, d2] }
  | _ => none }
def fnChunkWriterAvailableBufferReusesDroppedRoomRow : OpenClaim := { program := "qxb6614831a", sum := "562c2d9e8527124f3518bb944642a71454a0ec05b13acd4e83275e93b9f1c87d", func := "example.com/tallyseat/tallyseat/zzlaws_pkg_tally_b1.FnChunkWriterAvailableBufferReusesDroppedRoom", spec := "fnChunkWriterAvailableBufferReusesDroppedRoom", unfollowed := true, recurses := true, apart := false }
def FnChunkWriterAvailableBufferReusesDroppedRoomSaid : Prop := fnChunkWriterAvailableBufferReusesDroppedRoomRow.holds Try.pinned (OpenSpec.ofChange fnChunkWriterAvailableBufferReusesDroppedRoomSpec)

/-- ITS FALSE NEIGHBOUR: 'it returns false'. Refute it at one input. -/
def fnChunkWriterAvailableBufferReusesDroppedRoomWrong : ChangeSpec := { name := "fnChunkWriterAvailableBufferReusesDroppedRoom", fn := fun _ => fun
  | [d1, d2] => { results := [.lit (.bool false)], args := [d1, d2] }
  | _ => none }
def FnChunkWriterAvailableBufferReusesDroppedRoomWrongFalsely : Prop := fnChunkWriterAvailableBufferReusesDroppedRoomRow.holds Try.pinned (OpenSpec.ofChange fnChunkWriterAvailableBufferReusesDroppedRoomWrong)

/-- 'zzlaws_pkg_tally_b1.FnChunkWriterDropTwiceForgetsThePast': WHATEVER THE INPUT: true; the input reads as it did. -/
def fnChunkWriterDropTwiceForgetsThePastSpec : ChangeSpec := { name := "fnChunkWriterDropTwiceForgetsThePast", fn := fun _ => fun
  | [d1, d2] => { results := [.lit (.bool true)], args := [d1, d2] }
  | _ => none }
def fnChunkWriterDropTwiceForgetsThePastRow : OpenClaim := { program := "qxb6614831a", sum := "562c2d9e8527124f3518bb944642a71454a0ec05b13acd4e83275e93b9f1c87d", func := "example.com/tallyseat/tallyseat/zzlaws_pkg_tally_b1.FnChunkWriterDropTwiceForgetsThePast", spec := "fnChunkWriterDropTwiceForgetsThePast", unfollowed := true, recurses := true, apart := false }
def FnChunkWriterDropTwiceForgetsThePastSaid : Prop := fnChunkWriterDropTwiceForgetsThePastRow.holds Try.pinned (OpenSpec.ofChange fnChunkWriterDropTwiceForgetsThePastSpec)

/-- ITS FALSE NEIGHBOUR: 'it returns false'. Refute it at one input. -/
def fnChunkWriterDropTwiceForgetsThePastWrong : ChangeSpec := { name := "fnChunkWriterDropTwiceForgetsThePast", fn := fun _ => fun
  | [d1, d2] => { results := [.lit (.bool false)], args := [d1, d2] }
  | _ => none }
def FnChunkWriterDropTwiceForgetsThePastWrongFalsely : Prop := fnChunkWriterDropTwiceForgetsThePastRow.holds Try.pinned (OpenSpec.ofChange fnChunkWriterDropTwiceForgetsThePastWrong)

end Rows
end Go.Proofs.Qxb6614831a
