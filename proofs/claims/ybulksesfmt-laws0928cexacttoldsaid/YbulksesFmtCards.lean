/-
  DERIVED. GIVEN WITH THE SEED: THE CARDS: each row of YbulksesFmtRows.lean that lists a variable, with what it lists TIED to the program's text (the seventh form; the later family's looks); each row that meets fmt, with fmt's text TOLD by the authors' own Lean function (tested against real Go, not proved from fmt's source: count such statements apart). THE CARD IS WHAT COUNTS. Prove the row's statement (the work); the ties are given (YbulksesFmtTie.lean); close each card by the builder's one call (the guide's Derived/Test/ToyasCard.lean, 'card_holds'). Laid BY PROGRAM, IN A SANDBOX (cutbox-door.mjs). By AI agents, Wed Nov 11 2026. No macro, syntax, notation, axiom, sorry.
-/
import Derived.Test.YbulksesFmtRows
import GoSem.ClaimSeven
namespace Go.Proofs.YbulksesFmt
namespace Rows

/-- THE TOLD AND TIED CARD OF 'antecede.LawS0928CExact'. -/
def lawS0928CExactCard : Claim7 := { stood := { row := lawS0928CExactRow, standIns := [], harness := (true, "368ea9625ff4ad62c908100739930b69bdcead7e7d75d8acd2f7d6dcee6d842c"), looks := true }, told := true, laidByText := true, laidKinds := [.sentinel, .sentinel], laidTests := true, laidLooks := .later, goes := false }
def LawS0928CExactToldSaid : Prop := Claim7.holds Ybaf.pinned (.plain (OpenSpec.ofChange lawS0928CExactSpec)) lawS0928CExactCard
/-- ITS FALSE NEIGHBOUR. Refute it at one input. -/
def LawS0928CExactToldWrongFalsely : Prop := Claim7.holds Ybaf.pinned (.plain (OpenSpec.ofChange lawS0928CExactWrong)) lawS0928CExactCard

/-- THE TOLD AND TIED CARD OF 'antecede.LawS0928CScript'. -/
def lawS0928CScriptCard : Claim7 := { stood := { row := lawS0928CScriptRow, standIns := [], harness := (true, "368ea9625ff4ad62c908100739930b69bdcead7e7d75d8acd2f7d6dcee6d842c"), looks := true }, told := true, laidByText := true, laidKinds := [.sentinel, .sentinel], laidTests := true, laidLooks := .later, goes := false }
def LawS0928CScriptToldSaid : Prop := Claim7.holds Ybaf.pinned (.plain (OpenSpec.ofChange lawS0928CScriptSpec)) lawS0928CScriptCard
/-- ITS FALSE NEIGHBOUR. Refute it at one input. -/
def LawS0928CScriptToldWrongFalsely : Prop := Claim7.holds Ybaf.pinned (.plain (OpenSpec.ofChange lawS0928CScriptWrong)) lawS0928CScriptCard
end Rows
end Go.Proofs.YbulksesFmt
