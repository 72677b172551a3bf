/-
  No cell of these rows narrows 'for every input' (looked for: loops, veiled, ifaces, maps, wideKeys, modest, calm, conditions, laid).
  DERIVED. THE GIVEN ROWS OF THIS SEAT. 2 by the template 'for every input the law returns true; each argument reads behind the call as it read before'; 0 by the template 'total and deterministic' (their statements: Qxb6614996aTotals.lean).
  GIVEN WITH THE SEED: the statements are not yours to turn. If you find one false, say at which input.
  Laid BY PROGRAM, IN A SANDBOX (cutbox-rows.mjs): the forced cells as the released guide's own fill.sh prints them over the translation 79d62d08261cb229… (all of the seat's roots in one cut). By AI agents, Wed Nov 11 2026. No macro, syntax, notation, axiom, sorry.
-/
import Derived.Test.Qxb6614996aChecked
import GoSem.Claim
import GoSem.ClaimJoined
import GoSem.ClaimMapViews
import Derived.JoinedTies
import Derived.KernelRfl
namespace Go.Proofs.Qxb6614996a
/- THE CELL 'sum', in the pinned program and in every row, IS THE sha256 OF THE DUMP (.gsa) THAT Qxb6614996aProg.lean LOADS. Nothing in Lean hashes anything: it is a label: what it is worth is what the hold of that sum in a sandbox is worth. -/
noncomputable def Try.pinned : Pinned := { name := "qxb6614996a", sum := "79d62d08261cb229947d8173786784026054cb31301c54dee04be11f8dcb4b2c", checked := Try.checked }
namespace Rows
def none {H : Type} : Left H := { results := [], args := [] }

/-- 'zzlaws_internal_yamldoc_b1.FnUtf16DecodeReadsTheCharacterItsBytesStartWith': WHATEVER THE INPUT: true; the input reads as it did. -/
def fnUtf16DecodeReadsTheCharacterItsBytesStartWithSpec : ChangeSpec := { name := "fnUtf16DecodeReadsTheCharacterItsBytesStartWith", fn := fun _ => fun
  | [d] => { results := [.lit (.bool true)], args := [d] }
  | _ => none }
def fnUtf16DecodeReadsTheCharacterItsBytesStartWithRow : OpenClaim := { program := "qxb6614996a", sum := "79d62d08261cb229947d8173786784026054cb31301c54dee04be11f8dcb4b2c", func := "example.com/tranchework/tranchework/zzlaws_internal_yamldoc_b1.FnUtf16DecodeReadsTheCharacterItsBytesStartWith", spec := "fnUtf16DecodeReadsTheCharacterItsBytesStartWith", unfollowed := true, recurses := true, named := ["encoding/binary.LittleEndian", "encoding/binary.BigEndian"], apart := false }
def FnUtf16DecodeReadsTheCharacterItsBytesStartWithSaid : Prop := fnUtf16DecodeReadsTheCharacterItsBytesStartWithRow.holds Try.pinned (OpenSpec.ofChange fnUtf16DecodeReadsTheCharacterItsBytesStartWithSpec)

/-- ITS FALSE NEIGHBOUR: 'it returns false'. Refute it at one input. -/
def fnUtf16DecodeReadsTheCharacterItsBytesStartWithWrong : ChangeSpec := { name := "fnUtf16DecodeReadsTheCharacterItsBytesStartWith", fn := fun _ => fun
  | [d] => { results := [.lit (.bool false)], args := [d] }
  | _ => none }
def FnUtf16DecodeReadsTheCharacterItsBytesStartWithWrongFalsely : Prop := fnUtf16DecodeReadsTheCharacterItsBytesStartWithRow.holds Try.pinned (OpenSpec.ofChange fnUtf16DecodeReadsTheCharacterItsBytesStartWithWrong)

/-- 'zzlaws_internal_yamldoc_b1.FnUtf16DecoderWalksAnyBytesToTheirEnd': WHATEVER THE INPUT: true; the input reads as it did. -/
def fnUtf16DecoderWalksAnyBytesToTheirEndSpec : ChangeSpec := { name := "fnUtf16DecoderWalksAnyBytesToTheirEnd", fn := fun _ => fun
  | [d] => { results := [.lit (.bool true)], args := [d] }
  | _ => none }
def fnUtf16DecoderWalksAnyBytesToTheirEndRow : OpenClaim := { program := "qxb6614996a", sum := "79d62d08261cb229947d8173786784026054cb31301c54dee04be11f8dcb4b2c", func := "example.com/tranchework/tranchework/zzlaws_internal_yamldoc_b1.FnUtf16DecoderWalksAnyBytesToTheirEnd", spec := "fnUtf16DecoderWalksAnyBytesToTheirEnd", unfollowed := true, recurses := true, named := ["encoding/binary.BigEndian", "encoding/binary.LittleEndian"], apart := false }
def FnUtf16DecoderWalksAnyBytesToTheirEndSaid : Prop := fnUtf16DecoderWalksAnyBytesToTheirEndRow.holds Try.pinned (OpenSpec.ofChange fnUtf16DecoderWalksAnyBytesToTheirEndSpec)

/-- ITS FALSE NEIGHBOUR: 'it returns false'. Refute it at one input. -/
def fnUtf16DecoderWalksAnyBytesToTheirEndWrong : ChangeSpec := { name := "fnUtf16DecoderWalksAnyBytesToTheirEnd", fn := fun _ => fun
  | [d] => { results := [.lit (.bool false)], args := [d] }
  | _ => none }
def FnUtf16DecoderWalksAnyBytesToTheirEndWrongFalsely : Prop := fnUtf16DecoderWalksAnyBytesToTheirEndRow.holds Try.pinned (OpenSpec.ofChange fnUtf16DecoderWalksAnyBytesToTheirEndWrong)

end Rows
end Go.Proofs.Qxb6614996a
