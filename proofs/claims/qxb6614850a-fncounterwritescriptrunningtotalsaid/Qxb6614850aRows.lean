/-
  No cell of these rows narrows 'for every input' (looked for: loops, veiled, ifaces, maps, wideKeys, modest, calm, conditions, laid).
  DERIVED. THE GIVEN ROWS OF THIS SEAT. 2 by the template 'for every input the law returns true; each argument reads behind the call as it read before'; 0 by the template 'total and deterministic' (their statements: Qxb6614850aTotals.lean).
  GIVEN WITH THE SEED: the statements are not yours to turn. If you find one false, say at which input.
  Laid BY PROGRAM, IN A SANDBOX (cutbox-rows.mjs): the forced cells as the released guide's own fill.sh prints them over the translation c30a09ce2484e88d… (all of the seat's roots in one cut). By AI agents, Wed Nov 11 2026. No macro, syntax, notation, axiom, sorry.
-/
import Derived.Test.Qxb6614850aChecked
import GoSem.Claim
import GoSem.ClaimJoined
import GoSem.ClaimMapViews
import Derived.JoinedTies
import Derived.KernelRfl
namespace Go.Proofs.Qxb6614850a
/- THE CELL 'sum', in the pinned program and in every row, IS THE sha256 OF THE DUMP (.gsa) THAT Qxb6614850aProg.lean LOADS. Nothing in Lean hashes anything: it is a label: what it is worth is what the hold of that sum in a sandbox is worth. -/
noncomputable def Try.pinned : Pinned := { name := "qxb6614850a", sum := "c30a09ce2484e88d980e4b88501e9d39dc512f4dd2a0a368b156f8b568db29d6", checked := Try.checked }
namespace Rows
def none {H : Type} : Left H := { results := [], args := [] }

/-- 'zzlaws_internal_objectline_b1.FnCounterWriteSplitAtAnyCut': WHATEVER THE INPUT: true; the input reads as it did. -/
def fnCounterWriteSplitAtAnyCutSpec : ChangeSpec := { name := "fnCounterWriteSplitAtAnyCut", fn := fun _ => fun
  | [d1, d2, d3] => { results := [.lit (.bool true)], args := [d1, d2, d3] }
  | _ => none }
def fnCounterWriteSplitAtAnyCutRow : OpenClaim := { program := "qxb6614850a", sum := "c30a09ce2484e88d980e4b88501e9d39dc512f4dd2a0a368b156f8b568db29d6", func := "example.com/moorings/moorings/zzlaws_internal_objectline_b1.FnCounterWriteSplitAtAnyCut", spec := "fnCounterWriteSplitAtAnyCut", apart := false }
def FnCounterWriteSplitAtAnyCutSaid : Prop := fnCounterWriteSplitAtAnyCutRow.holds Try.pinned (OpenSpec.ofChange fnCounterWriteSplitAtAnyCutSpec)

/-- ITS FALSE NEIGHBOUR: 'it returns false'. Refute it at one input. -/
def fnCounterWriteSplitAtAnyCutWrong : ChangeSpec := { name := "fnCounterWriteSplitAtAnyCut", fn := fun _ => fun
  | [d1, d2, d3] => { results := [.lit (.bool false)], args := [d1, d2, d3] }
  | _ => none }
def FnCounterWriteSplitAtAnyCutWrongFalsely : Prop := fnCounterWriteSplitAtAnyCutRow.holds Try.pinned (OpenSpec.ofChange fnCounterWriteSplitAtAnyCutWrong)

/-- 'zzlaws_internal_objectline_b1.FnCounterWriteScriptRunningTotal': WHATEVER THE INPUT: true; the input reads as it did. -/
def fnCounterWriteScriptRunningTotalSpec : ChangeSpec := { name := "fnCounterWriteScriptRunningTotal", fn := fun _ => fun
  | [d1, d2] => { results := [.lit (.bool true)], args := [d1, d2] }
  | _ => none }
def fnCounterWriteScriptRunningTotalRow : OpenClaim := { program := "qxb6614850a", sum := "c30a09ce2484e88d980e4b88501e9d39dc512f4dd2a0a368b156f8b568db29d6", func := "example.com/moorings/moorings/zzlaws_internal_objectline_b1.FnCounterWriteScriptRunningTotal", spec := "fnCounterWriteScriptRunningTotal", apart := false }
def FnCounterWriteScriptRunningTotalSaid : Prop := fnCounterWriteScriptRunningTotalRow.holds Try.pinned (OpenSpec.ofChange fnCounterWriteScriptRunningTotalSpec)

/-- ITS FALSE NEIGHBOUR: 'it returns false'. Refute it at one input. -/
def fnCounterWriteScriptRunningTotalWrong : ChangeSpec := { name := "fnCounterWriteScriptRunningTotal", fn := fun _ => fun
  | [d1, d2] => { results := [.lit (.bool false)], args := [d1, d2] }
  | _ => none }
def FnCounterWriteScriptRunningTotalWrongFalsely : Prop := fnCounterWriteScriptRunningTotalRow.holds Try.pinned (OpenSpec.ofChange fnCounterWriteScriptRunningTotalWrong)

end Rows
end Go.Proofs.Qxb6614850a
