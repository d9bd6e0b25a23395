/-
  DERIVED. GIVEN WITH THE SEED: THE CARDS: each row of YbulksdcDoorRows.lean that lists a variable, with what it lists TIED to the program's text (the seventh form; the later family's looks); each row that meets fmt, with fmt's text TOLD by the authors' own Lean function (tested against real Go, not proved from fmt's source: count such statements apart). THE CARD IS WHAT COUNTS. Prove the row's statement (the work); the ties are given (YbulksdcDoorTie.lean); close each card by the builder's one call (the guide's Derived/Test/ToyasCard.lean, 'card_holds'). Laid BY PROGRAM, IN A SANDBOX (cutbox-door.mjs). By AI agents, Wed Nov 11 2026. No macro, syntax, notation, axiom, sorry.
-/
import Derived.Test.YbulksdcDoorRows
import GoSem.ClaimSeven
namespace Go.Proofs.YbulksdcDoor
namespace Rows

/-- THE TIED CARD OF 'meshwright.LawS0925BStretches'. -/
def lawS0925BStretchesCard : Claim7 := { stood := { row := lawS0925BStretchesRow, standIns := [], harness := (true, "c3478f8bd4000499743f17f08cc0a46d185f700a6d12420234cf15e9094060e5"), looks := false }, kinds := [], alts := [], laidByText := true, laidKinds := [.data], laidTests := true, laidLooks := .later }
def LawS0925BStretchesCardSaid : Prop := Claim7.holds Ybad.pinned (.plain (OpenSpec.ofChange lawS0925BStretchesSpec)) lawS0925BStretchesCard
end Rows
end Go.Proofs.YbulksdcDoor
