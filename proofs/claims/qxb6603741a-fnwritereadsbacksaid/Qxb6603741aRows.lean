/-
  No cell of these rows narrows 'for every input' (looked for: loops, veiled, ifaces, maps, wideKeys, modest, calm, conditions, laid).
  DERIVED. THE GIVEN ROWS OF THIS SEAT. 3 by the template 'for every input the law returns true; each argument reads behind the call as it read before'; 0 by the template 'total and deterministic' (their statements: Qxb6603741aTotals.lean).
  GIVEN WITH THE SEED: the statements are not yours to turn. If you find one false, say at which input.
  Laid BY PROGRAM, IN A SANDBOX (cutbox-rows.mjs): the forced cells as the released guide's own fill.sh prints them over the translation b0cf383fec41b16e… (all of the seat's roots in one cut). By AI agents, Wed Nov 11 2026. No macro, syntax, notation, axiom, sorry.
-/
import Derived.Test.Qxb6603741aChecked
import GoSem.Claim
import GoSem.ClaimJoined
import GoSem.ClaimMapViews
import Derived.JoinedTies
import Derived.KernelRfl
namespace Go.Proofs.Qxb6603741a
/- THE CELL 'sum', in the pinned program and in every row, IS THE sha256 OF THE DUMP (.gsa) THAT Qxb6603741aProg.lean LOADS. Nothing in Lean hashes anything: it is a label: what it is worth is what the hold of that sum in a sandbox is worth. -/
noncomputable def Try.pinned : Pinned := { name := "qxb6603741a", sum := "b0cf383fec41b16ecd2418721afc3cfd45927058acdce9cd5a7c6fd3017f89d8", checked := Try.checked }
namespace Rows
def none {H : Type} : Left H := { results := [], args := [] }

/-- 'zzlaws_authsig_b1.FnAppendStringReadsBack': WHATEVER THE INPUT: true; the input reads as it did. -/
def fnAppendStringReadsBackSpec : ChangeSpec := { name := "fnAppendStringReadsBack", fn := fun _ => fun
  | [d1, d2] => { results := [.lit (.bool true)], args := [d1, d2] }
  | _ => none }
def fnAppendStringReadsBackRow : OpenClaim := { program := "qxb6603741a", sum := "b0cf383fec41b16ecd2418721afc3cfd45927058acdce9cd5a7c6fd3017f89d8", func := "example.com/sealwright/sealwright/zzlaws_authsig_b1.FnAppendStringReadsBack", spec := "fnAppendStringReadsBack", apart := false }
def FnAppendStringReadsBackSaid : Prop := fnAppendStringReadsBackRow.holds Try.pinned (OpenSpec.ofChange fnAppendStringReadsBackSpec)

/-- ITS FALSE NEIGHBOUR: 'it returns false'. Refute it at one input. -/
def fnAppendStringReadsBackWrong : ChangeSpec := { name := "fnAppendStringReadsBack", fn := fun _ => fun
  | [d1, d2] => { results := [.lit (.bool false)], args := [d1, d2] }
  | _ => none }
def FnAppendStringReadsBackWrongFalsely : Prop := fnAppendStringReadsBackRow.holds Try.pinned (OpenSpec.ofChange fnAppendStringReadsBackWrong)

/-- 'zzlaws_authsig_b1.FnAppendStringSplitsAtAnyByte': WHATEVER THE INPUT: true; the input reads as it did. -/
def fnAppendStringSplitsAtAnyByteSpec : ChangeSpec := { name := "fnAppendStringSplitsAtAnyByte", fn := fun _ => fun
  | [d1, d2] => { results := [.lit (.bool true)], args := [d1, d2] }
  | _ => none }
def fnAppendStringSplitsAtAnyByteRow : OpenClaim := { program := "qxb6603741a", sum := "b0cf383fec41b16ecd2418721afc3cfd45927058acdce9cd5a7c6fd3017f89d8", func := "example.com/sealwright/sealwright/zzlaws_authsig_b1.FnAppendStringSplitsAtAnyByte", spec := "fnAppendStringSplitsAtAnyByte", apart := false }
def FnAppendStringSplitsAtAnyByteSaid : Prop := fnAppendStringSplitsAtAnyByteRow.holds Try.pinned (OpenSpec.ofChange fnAppendStringSplitsAtAnyByteSpec)

/-- ITS FALSE NEIGHBOUR: 'it returns false'. Refute it at one input. -/
def fnAppendStringSplitsAtAnyByteWrong : ChangeSpec := { name := "fnAppendStringSplitsAtAnyByte", fn := fun _ => fun
  | [d1, d2] => { results := [.lit (.bool false)], args := [d1, d2] }
  | _ => none }
def FnAppendStringSplitsAtAnyByteWrongFalsely : Prop := fnAppendStringSplitsAtAnyByteRow.holds Try.pinned (OpenSpec.ofChange fnAppendStringSplitsAtAnyByteWrong)

/-- 'zzlaws_authsig_b1.FnWriteReadsBack': WHATEVER THE INPUT: true; the input reads as it did. -/
def fnWriteReadsBackSpec : ChangeSpec := { name := "fnWriteReadsBack", fn := fun _ => fun
  | [d1, d2, d3, d4, d5, d6, d7, d8, d9, d10, d11] => { results := [.lit (.bool true)], args := [d1, d2, d3, d4, d5, d6, d7, d8, d9, d10, d11] }
  | _ => none }
def fnWriteReadsBackRow : OpenClaim := { program := "qxb6603741a", sum := "b0cf383fec41b16ecd2418721afc3cfd45927058acdce9cd5a7c6fd3017f89d8", func := "example.com/sealwright/sealwright/zzlaws_authsig_b1.FnWriteReadsBack", spec := "fnWriteReadsBack", recurses := true, apart := false }
def FnWriteReadsBackSaid : Prop := fnWriteReadsBackRow.holds Try.pinned (OpenSpec.ofChange fnWriteReadsBackSpec)

/-- ITS FALSE NEIGHBOUR: 'it returns false'. Refute it at one input. -/
def fnWriteReadsBackWrong : ChangeSpec := { name := "fnWriteReadsBack", fn := fun _ => fun
  | [d1, d2, d3, d4, d5, d6, d7, d8, d9, d10, d11] => { results := [.lit (.bool false)], args := [d1, d2, d3, d4, d5, d6, d7, d8, d9, d10, d11] }
  | _ => none }
def FnWriteReadsBackWrongFalsely : Prop := fnWriteReadsBackRow.holds Try.pinned (OpenSpec.ofChange fnWriteReadsBackWrong)

end Rows
end Go.Proofs.Qxb6603741a
