/-
  No cell of these rows narrows 'for every input' (looked for: loops, veiled, ifaces, maps, wideKeys, modest, calm, conditions, laid).
  DERIVED. THE GIVEN ROWS OF THIS SEAT. 3 by the template 'for every input the law returns true; each argument reads behind the call as it read before'; 0 by the template 'total and deterministic' (their statements: Qxb6604255aTotals.lean).
  GIVEN WITH THE SEED: the statements are not yours to turn. If you find one false, say at which input.
  Laid BY PROGRAM, IN A SANDBOX (cutbox-rows.mjs): the forced cells as the released guide's own fill.sh prints them over the translation aad63335214d0ca2… (all of the seat's roots in one cut). By AI agents, Wed Nov 11 2026. No macro, syntax, notation, axiom, sorry.
-/
import Derived.Test.Qxb6604255aChecked
import GoSem.Claim
import GoSem.ClaimJoined
import GoSem.ClaimMapViews
import Derived.JoinedTies
import Derived.KernelRfl
namespace Go.Proofs.Qxb6604255a
/- THE CELL 'sum', in the pinned program and in every row, IS THE sha256 OF THE DUMP (.gsa) THAT Qxb6604255aProg.lean LOADS. Nothing in Lean hashes anything: it is a label: what it is worth is what the hold of that sum in a sandbox is worth. -/
noncomputable def Try.pinned : Pinned := { name := "qxb6604255a", sum := "aad63335214d0ca25a7a6073af562dab6742e636eaebe02bd0d449e82cecc31d", checked := Try.checked }
namespace Rows
def none {H : Type} : Left H := { results := [], args := [] }

/-- 'zzlaws_internal_checker_b1.FnShortestCycleIsAShortestCycleThroughS': WHATEVER THE INPUT: true; the input reads as it did. -/
def fnShortestCycleIsAShortestCycleThroughSSpec : ChangeSpec := { name := "fnShortestCycleIsAShortestCycleThroughS", fn := fun _ => fun
  | [d1, d2, d3, d4] => { results := [.lit (.bool true)], args := [d1, d2, d3, d4] }
  | _ => none }
def fnShortestCycleIsAShortestCycleThroughSRow : OpenClaim := { program := "qxb6604255a", sum := "aad63335214d0ca25a7a6073af562dab6742e636eaebe02bd0d449e82cecc31d", func := "example.com/palimpsest/palimpsest/zzlaws_internal_checker_b1.FnShortestCycleIsAShortestCycleThroughS", spec := "fnShortestCycleIsAShortestCycleThroughS", apart := false }
def FnShortestCycleIsAShortestCycleThroughSSaid : Prop := fnShortestCycleIsAShortestCycleThroughSRow.holds Try.pinned (OpenSpec.ofChange fnShortestCycleIsAShortestCycleThroughSSpec)

/-- ITS FALSE NEIGHBOUR: 'it returns false'. Refute it at one input. -/
def fnShortestCycleIsAShortestCycleThroughSWrong : ChangeSpec := { name := "fnShortestCycleIsAShortestCycleThroughS", fn := fun _ => fun
  | [d1, d2, d3, d4] => { results := [.lit (.bool false)], args := [d1, d2, d3, d4] }
  | _ => none }
def FnShortestCycleIsAShortestCycleThroughSWrongFalsely : Prop := fnShortestCycleIsAShortestCycleThroughSRow.holds Try.pinned (OpenSpec.ofChange fnShortestCycleIsAShortestCycleThroughSWrong)

/-- 'zzlaws_internal_checker_b1.FnShortestCycleBoundsItsNodes': WHATEVER THE INPUT: true; the input reads as it did. -/
def fnShortestCycleBoundsItsNodesSpec : ChangeSpec := { name := "fnShortestCycleBoundsItsNodes", fn := fun _ => fun
  | [d1, d2, d3, d4] => { results := [.lit (.bool true)], args := [d1, d2, d3, d4] }
  | _ => none }
def fnShortestCycleBoundsItsNodesRow : OpenClaim := { program := "qxb6604255a", sum := "aad63335214d0ca25a7a6073af562dab6742e636eaebe02bd0d449e82cecc31d", func := "example.com/palimpsest/palimpsest/zzlaws_internal_checker_b1.FnShortestCycleBoundsItsNodes", spec := "fnShortestCycleBoundsItsNodes", apart := false }
def FnShortestCycleBoundsItsNodesSaid : Prop := fnShortestCycleBoundsItsNodesRow.holds Try.pinned (OpenSpec.ofChange fnShortestCycleBoundsItsNodesSpec)

/-- ITS FALSE NEIGHBOUR: 'it returns false'. Refute it at one input. -/
def fnShortestCycleBoundsItsNodesWrong : ChangeSpec := { name := "fnShortestCycleBoundsItsNodes", fn := fun _ => fun
  | [d1, d2, d3, d4] => { results := [.lit (.bool false)], args := [d1, d2, d3, d4] }
  | _ => none }
def FnShortestCycleBoundsItsNodesWrongFalsely : Prop := fnShortestCycleBoundsItsNodesRow.holds Try.pinned (OpenSpec.ofChange fnShortestCycleBoundsItsNodesWrong)

/-- 'zzlaws_internal_checker_b1.FnCycleNilExactlyWhenAcyclic': WHATEVER THE INPUT: true; the input reads as it did. -/
def fnCycleNilExactlyWhenAcyclicSpec : ChangeSpec := { name := "fnCycleNilExactlyWhenAcyclic", fn := fun _ => fun
  | [d1, d2, d3] => { results := [.lit (.bool true)], args := [d1, d2, d3] }
  | _ => none }
def fnCycleNilExactlyWhenAcyclicRow : OpenClaim := { program := "qxb6604255a", sum := "aad63335214d0ca25a7a6073af562dab6742e636eaebe02bd0d449e82cecc31d", func := "example.com/palimpsest/palimpsest/zzlaws_internal_checker_b1.FnCycleNilExactlyWhenAcyclic", spec := "fnCycleNilExactlyWhenAcyclic", apart := false }
def FnCycleNilExactlyWhenAcyclicSaid : Prop := fnCycleNilExactlyWhenAcyclicRow.holds Try.pinned (OpenSpec.ofChange fnCycleNilExactlyWhenAcyclicSpec)

/-- ITS FALSE NEIGHBOUR: 'it returns false'. Refute it at one input. -/
def fnCycleNilExactlyWhenAcyclicWrong : ChangeSpec := { name := "fnCycleNilExactlyWhenAcyclic", fn := fun _ => fun
  | [d1, d2, d3] => { results := [.lit (.bool false)], args := [d1, d2, d3] }
  | _ => none }
def FnCycleNilExactlyWhenAcyclicWrongFalsely : Prop := fnCycleNilExactlyWhenAcyclicRow.holds Try.pinned (OpenSpec.ofChange fnCycleNilExactlyWhenAcyclicWrong)

end Rows
end Go.Proofs.Qxb6604255a
