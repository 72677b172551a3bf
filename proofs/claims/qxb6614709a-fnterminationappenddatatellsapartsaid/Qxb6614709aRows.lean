/-
  No cell of these rows narrows 'for every input' (looked for: loops, veiled, ifaces, maps, wideKeys, modest, calm, conditions, laid).
  DERIVED. THE GIVEN ROWS OF THIS SEAT. 2 by the template 'for every input the law returns true; each argument reads behind the call as it read before'; 0 by the template 'total and deterministic' (their statements: Qxb6614709aTotals.lean).
  GIVEN WITH THE SEED: the statements are not yours to turn. If you find one false, say at which input.
  Laid BY PROGRAM, IN A SANDBOX (cutbox-rows.mjs): the forced cells as the released guide's own fill.sh prints them over the translation 554d98778d695a95… (all of the seat's roots in one cut). By AI agents, Wed Nov 11 2026. No macro, syntax, notation, axiom, sorry.
-/
import Derived.Test.Qxb6614709aChecked
import GoSem.Claim
import GoSem.ClaimJoined
import GoSem.ClaimMapViews
import Derived.JoinedTies
import Derived.KernelRfl
namespace Go.Proofs.Qxb6614709a
/- THE CELL 'sum', in the pinned program and in every row, IS THE sha256 OF THE DUMP (.gsa) THAT Qxb6614709aProg.lean LOADS. Nothing in Lean hashes anything: it is a label: what it is worth is what the hold of that sum in a sandbox is worth. -/
noncomputable def Try.pinned : Pinned := { name := "qxb6614709a", sum := "554d98778d695a95dc38dfb1186cb60e100c1aa420db8e465fe63ef1a79aa0b0", checked := Try.checked }
namespace Rows
def none {H : Type} : Left H := { results := [], args := [] }

/-- 'zzlaws_internal_blocks_b1.FnTerminationAppendDataCutAnywhere': WHATEVER THE INPUT: true; the input reads as it did. -/
def fnTerminationAppendDataCutAnywhereSpec : ChangeSpec := { name := "fnTerminationAppendDataCutAnywhere", fn := fun _ => fun
  | [d1, d2, d3, d4] => { results := [.lit (.bool true)], args := [d1, d2, d3, d4] }
  | _ => none }
def fnTerminationAppendDataCutAnywhereRow : OpenClaim := { program := "qxb6614709a", sum := "554d98778d695a95dc38dfb1186cb60e100c1aa420db8e465fe63ef1a79aa0b0", func := "example.com/pawl/zzlaws_internal_blocks_b1.FnTerminationAppendDataCutAnywhere", spec := "fnTerminationAppendDataCutAnywhere", apart := false }
def FnTerminationAppendDataCutAnywhereSaid : Prop := fnTerminationAppendDataCutAnywhereRow.holds Try.pinned (OpenSpec.ofChange fnTerminationAppendDataCutAnywhereSpec)

/-- ITS FALSE NEIGHBOUR: 'it returns false'. Refute it at one input. -/
def fnTerminationAppendDataCutAnywhereWrong : ChangeSpec := { name := "fnTerminationAppendDataCutAnywhere", fn := fun _ => fun
  | [d1, d2, d3, d4] => { results := [.lit (.bool false)], args := [d1, d2, d3, d4] }
  | _ => none }
def FnTerminationAppendDataCutAnywhereWrongFalsely : Prop := fnTerminationAppendDataCutAnywhereRow.holds Try.pinned (OpenSpec.ofChange fnTerminationAppendDataCutAnywhereWrong)

/-- 'zzlaws_internal_blocks_b1.FnTerminationAppendDataTellsApart': WHATEVER THE INPUT: true; the input reads as it did. -/
def fnTerminationAppendDataTellsApartSpec : ChangeSpec := { name := "fnTerminationAppendDataTellsApart", fn := fun _ => fun
  | [d1, d2, d3, d4, d5] => { results := [.lit (.bool true)], args := [d1, d2, d3, d4, d5] }
  | _ => none }
def fnTerminationAppendDataTellsApartRow : OpenClaim := { program := "qxb6614709a", sum := "554d98778d695a95dc38dfb1186cb60e100c1aa420db8e465fe63ef1a79aa0b0", func := "example.com/pawl/zzlaws_internal_blocks_b1.FnTerminationAppendDataTellsApart", spec := "fnTerminationAppendDataTellsApart", apart := false }
def FnTerminationAppendDataTellsApartSaid : Prop := fnTerminationAppendDataTellsApartRow.holds Try.pinned (OpenSpec.ofChange fnTerminationAppendDataTellsApartSpec)

/-- ITS FALSE NEIGHBOUR: 'it returns false'. Refute it at one input. -/
def fnTerminationAppendDataTellsApartWrong : ChangeSpec := { name := "fnTerminationAppendDataTellsApart", fn := fun _ => fun
  | [d1, d2, d3, d4, d5] => { results := [.lit (.bool false)], args := [d1, d2, d3, d4, d5] }
  | _ => none }
def FnTerminationAppendDataTellsApartWrongFalsely : Prop := fnTerminationAppendDataTellsApartRow.holds Try.pinned (OpenSpec.ofChange fnTerminationAppendDataTellsApartWrong)

end Rows
end Go.Proofs.Qxb6614709a
