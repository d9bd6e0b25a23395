/-
  No cell of these rows narrows 'for every input' (looked for: loops, veiled, ifaces, maps, wideKeys, modest, calm, conditions, laid).
  DERIVED. THE GIVEN ROWS OF THIS SEAT. 3 by the template 'for every input the law returns true; each argument reads behind the call as it read before'; 0 by the template 'total and deterministic' (their statements: YbulksesTotals.lean).
  GIVEN WITH THE SEED: the statements are not yours to turn. If you find one false, say at which input.
  Laid BY PROGRAM, IN A SANDBOX (cutbox-rows.mjs): the forced cells as the released guide's own fill.sh prints them over the translation d8783ac7dfb124ec… (all of the seat's roots in one cut). By AI agents, Wed Nov 11 2026. No macro, syntax, notation, axiom, sorry.
-/
import Derived.Test.YbulksesChecked
import GoSem.Claim
import GoSem.ClaimJoined
import GoSem.ClaimMapViews
import Derived.JoinedTies
import Derived.KernelRfl
namespace Go.Proofs.Ybulkses
/- THE CELL 'sum', in the pinned program and in every row, IS THE sha256 OF THE DUMP (.gsa) THAT YbulksesProg.lean LOADS. Nothing in Lean hashes anything: it is a label: what it is worth is what the hold of that sum in a sandbox is worth. -/
noncomputable def Yba.pinned : Pinned := { name := "ybulkses", sum := "d8783ac7dfb124ec990aca7dfbba57e0b1ab9e0261c17f484ee7e0257a99f3a4", checked := Yba.checked }
namespace Rows
def none {H : Type} : Left H := { results := [], args := [] }

/-- 'antecede.LawS0928BSpec': WHATEVER THE INPUT: true; the input reads as it did. -/
def lawS0928BSpecSpec : ChangeSpec := { name := "lawS0928BSpec", fn := fun _ => fun
  | [d1, d2, d3] => { results := [.lit (.bool true)], args := [d1, d2, d3] }
  | _ => none }
def lawS0928BSpecRow : OpenClaim := { program := "ybulkses", sum := "d8783ac7dfb124ec990aca7dfbba57e0b1ab9e0261c17f484ee7e0257a99f3a4", func := "example.com/antecede/antecede.LawS0928BSpec", spec := "lawS0928BSpec", apart := false }
def LawS0928BSpecSaid : Prop := lawS0928BSpecRow.holds Yba.pinned (OpenSpec.ofChange lawS0928BSpecSpec)

/-- ITS FALSE NEIGHBOUR: 'it returns false'. Refute it at one input. -/
def lawS0928BSpecWrong : ChangeSpec := { name := "lawS0928BSpec", fn := fun _ => fun
  | [d1, d2, d3] => { results := [.lit (.bool false)], args := [d1, d2, d3] }
  | _ => none }
def LawS0928BSpecWrongFalsely : Prop := lawS0928BSpecRow.holds Yba.pinned (OpenSpec.ofChange lawS0928BSpecWrong)

/-- 'antecede.LawS0928BSpliced': WHATEVER THE INPUT: true; the input reads as it did. -/
def lawS0928BSplicedSpec : ChangeSpec := { name := "lawS0928BSpliced", fn := fun _ => fun
  | [d1, d2, d3] => { results := [.lit (.bool true)], args := [d1, d2, d3] }
  | _ => none }
def lawS0928BSplicedRow : OpenClaim := { program := "ybulkses", sum := "d8783ac7dfb124ec990aca7dfbba57e0b1ab9e0261c17f484ee7e0257a99f3a4", func := "example.com/antecede/antecede.LawS0928BSpliced", spec := "lawS0928BSpliced", apart := false }
def LawS0928BSplicedSaid : Prop := lawS0928BSplicedRow.holds Yba.pinned (OpenSpec.ofChange lawS0928BSplicedSpec)

/-- ITS FALSE NEIGHBOUR: 'it returns false'. Refute it at one input. -/
def lawS0928BSplicedWrong : ChangeSpec := { name := "lawS0928BSpliced", fn := fun _ => fun
  | [d1, d2, d3] => { results := [.lit (.bool false)], args := [d1, d2, d3] }
  | _ => none }
def LawS0928BSplicedWrongFalsely : Prop := lawS0928BSplicedRow.holds Yba.pinned (OpenSpec.ofChange lawS0928BSplicedWrong)

/-- 'antecede.LawS0928BManual': WHATEVER THE INPUT: true; the input reads as it did. -/
def lawS0928BManualSpec : ChangeSpec := { name := "lawS0928BManual", fn := fun _ => fun
  | [d1, d2, d3] => { results := [.lit (.bool true)], args := [d1, d2, d3] }
  | _ => none }
def lawS0928BManualRow : OpenClaim := { program := "ybulkses", sum := "d8783ac7dfb124ec990aca7dfbba57e0b1ab9e0261c17f484ee7e0257a99f3a4", func := "example.com/antecede/antecede.LawS0928BManual", spec := "lawS0928BManual", apart := false }
def LawS0928BManualSaid : Prop := lawS0928BManualRow.holds Yba.pinned (OpenSpec.ofChange lawS0928BManualSpec)

/-- ITS FALSE NEIGHBOUR: 'it returns false'. Refute it at one input. -/
def lawS0928BManualWrong : ChangeSpec := { name := "lawS0928BManual", fn := fun _ => fun
  | [d1, d2, d3] => { results := [.lit (.bool false)], args := [d1, d2, d3] }
  | _ => none }
def LawS0928BManualWrongFalsely : Prop := lawS0928BManualRow.holds Yba.pinned (OpenSpec.ofChange lawS0928BManualWrong)

end Rows
end Go.Proofs.Ybulkses
