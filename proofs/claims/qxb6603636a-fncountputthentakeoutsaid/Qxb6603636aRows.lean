/-
  No cell of these rows narrows 'for every input' (looked for: loops, veiled, ifaces, maps, wideKeys, modest, calm, conditions, laid).
  DERIVED. THE GIVEN ROWS OF THIS SEAT. 2 by the template 'for every input the law returns true; each argument reads behind the call as it read before'; 0 by the template 'total and deterministic' (their statements: Qxb6603636aTotals.lean).
  GIVEN WITH THE SEED: the statements are not yours to turn. If you find one false, say at which input.
  Laid BY PROGRAM, IN A SANDBOX (cutbox-rows.mjs): the forced cells as the released guide's own fill.sh prints them over the translation d6837b09d8257966… (all of the seat's roots in one cut). By AI agents, Wed Nov 11 2026. No macro, syntax, notation, axiom, sorry.
-/
import Derived.Test.Qxb6603636aChecked
import GoSem.Claim
import GoSem.ClaimJoined
import GoSem.ClaimMapViews
import Derived.JoinedTies
import Derived.KernelRfl
namespace Go.Proofs.Qxb6603636a
/- THE CELL 'sum', in the pinned program and in every row, IS THE sha256 OF THE DUMP (.gsa) THAT Qxb6603636aProg.lean LOADS. Nothing in Lean hashes anything: it is a label: what it is worth is what the hold of that sum in a sandbox is worth. -/
noncomputable def Try.pinned : Pinned := { name := "qxb6603636a", sum := "d6837b09d82579667bdf15e2cd4b1ce568fdaf155a5d2b8b401b13d0188b654a", checked := Try.checked }
namespace Rows
def none {H : Type} : Left H := { results := [], args := [] }

/-- 'zzlaws_internal_storage_b1.FnCountMatchesRecordSizes': WHATEVER THE INPUT: true; the input reads as it did. -/
def fnCountMatchesRecordSizesSpec : ChangeSpec := { name := "fnCountMatchesRecordSizes", fn := fun _ => fun
  | [d1, d2, d3, d4, d5] => { results := [.lit (.bool true)], args := [d1, d2, d3, d4, d5] }
  | _ => none }
def fnCountMatchesRecordSizesRow : OpenClaim := { program := "qxb6603636a", sum := "d6837b09d82579667bdf15e2cd4b1ce568fdaf155a5d2b8b401b13d0188b654a", func := "example.com/serialist/serialist/zzlaws_internal_storage_b1.FnCountMatchesRecordSizes", spec := "fnCountMatchesRecordSizes", unfollowed := true, recurses := true, apart := false }
def FnCountMatchesRecordSizesSaid : Prop := fnCountMatchesRecordSizesRow.holds Try.pinned (OpenSpec.ofChange fnCountMatchesRecordSizesSpec)

/-- ITS FALSE NEIGHBOUR: 'it returns false'. Refute it at one input. -/
def fnCountMatchesRecordSizesWrong : ChangeSpec := { name := "fnCountMatchesRecordSizes", fn := fun _ => fun
  | [d1, d2, d3, d4, d5] => { results := [.lit (.bool false)], args := [d1, d2, d3, d4, d5] }
  | _ => none }
def FnCountMatchesRecordSizesWrongFalsely : Prop := fnCountMatchesRecordSizesRow.holds Try.pinned (OpenSpec.ofChange fnCountMatchesRecordSizesWrong)

/-- 'zzlaws_internal_storage_b1.FnCountPutThenTakeOut': WHATEVER THE INPUT: true; the input reads as it did. -/
def fnCountPutThenTakeOutSpec : ChangeSpec := { name := "fnCountPutThenTakeOut", fn := fun _ => fun
  | [d1, d2, d3, d4] => { results := [.lit (.bool true)], args := [d1, d2, d3, d4] }
  | _ => none }
def fnCountPutThenTakeOutRow : OpenClaim := { program := "qxb6603636a", sum := "d6837b09d82579667bdf15e2cd4b1ce568fdaf155a5d2b8b401b13d0188b654a", func := "example.com/serialist/serialist/zzlaws_internal_storage_b1.FnCountPutThenTakeOut", spec := "fnCountPutThenTakeOut", unfollowed := true, recurses := true, apart := false }
def FnCountPutThenTakeOutSaid : Prop := fnCountPutThenTakeOutRow.holds Try.pinned (OpenSpec.ofChange fnCountPutThenTakeOutSpec)

/-- ITS FALSE NEIGHBOUR: 'it returns false'. Refute it at one input. -/
def fnCountPutThenTakeOutWrong : ChangeSpec := { name := "fnCountPutThenTakeOut", fn := fun _ => fun
  | [d1, d2, d3, d4] => { results := [.lit (.bool false)], args := [d1, d2, d3, d4] }
  | _ => none }
def FnCountPutThenTakeOutWrongFalsely : Prop := fnCountPutThenTakeOutRow.holds Try.pinned (OpenSpec.ofChange fnCountPutThenTakeOutWrong)

end Rows
end Go.Proofs.Qxb6603636a
