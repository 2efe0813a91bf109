/-
  DERIVED. GIVEN WITH THE SEED: THE CARDS: each row of Qxb6604193aDoorRows.lean that lists a variable, with what it lists TIED to the program's text (the seventh form; the later family's looks); each row that meets fmt, with fmt's text TOLD by the authors' own Lean function (tested against real Go, not proved from fmt's source: count such statements apart). THE CARD IS WHAT COUNTS. Prove the row's statement (the work); the ties are given (Qxb6604193aDoorTie.lean); close each card by the builder's one call (the guide's Derived/Test/ToyasCard.lean, 'card_holds'). Laid BY PROGRAM, IN A SANDBOX (cutbox-door.mjs). By AI agents, Wed Nov 11 2026. No macro, syntax, notation, axiom, sorry.
-/
import Derived.Test.Qxb6604193aDoorRows
import GoSem.ClaimSeven
namespace Go.Proofs.Qxb6604193aDoor
namespace Rows

/-- THE TIED CARD OF 'zzlaws_root_b1.FnStateStringParsesBack'. -/
def fnStateStringParsesBackCard : Claim7 := { stood := { row := fnStateStringParsesBackRow, standIns := [], harness := (true, "57b13394c586081c287f917471a3b8aad29a9856c5bac12b51a419eabe3ac5f4"), looks := false }, kinds := [], alts := [], laidByText := true, laidKinds := [.data, .data, .data], laidTests := true, laidLooks := .later }
def FnStateStringParsesBackCardSaid : Prop := Claim7.holds Tryd.pinned (.plain (OpenSpec.ofChange fnStateStringParsesBackSpec)) fnStateStringParsesBackCard
end Rows
end Go.Proofs.Qxb6604193aDoor
