/-
  No cell of these rows narrows 'for every input' (looked for: loops, veiled, ifaces, maps, wideKeys, modest, calm, conditions, laid).
  DERIVED. THE GIVEN ROWS OF THIS SEAT. 5 by the template 'for every input the law returns true; each argument reads behind the call as it read before'; 0 by the template 'total and deterministic' (their statements: YbulkseeTotals.lean).
  GIVEN WITH THE SEED: the statements are not yours to turn. If you find one false, say at which input.
  Laid BY PROGRAM, IN A SANDBOX (cutbox-rows.mjs): the forced cells as the released guide's own fill.sh prints them over the translation cb47104fc461c16e… (all of the seat's roots in one cut). By AI agents, Wed Nov 11 2026. No macro, syntax, notation, axiom, sorry.
-/
import Derived.Test.YbulkseeChecked
import GoSem.Claim
import GoSem.ClaimJoined
import GoSem.ClaimMapViews
import Derived.JoinedTies
import Derived.KernelRfl
namespace Go.Proofs.Ybulksee
/- THE CELL 'sum', in the pinned program and in every row, IS THE sha256 OF THE DUMP (.gsa) THAT YbulkseeProg.lean LOADS. Nothing in Lean hashes anything: it is a label: what it is worth is what the hold of that sum in a sandbox is worth. -/
noncomputable def Yba.pinned : Pinned := { name := "ybulksee", sum := "cb47104fc461c16edf8090b5b233441101c40cb7d8207b69e4ec703595ab123d", checked := Yba.checked }
namespace Rows
def none {H : Type} : Left H := { results := [], args := [] }

/-- 'micro.LawS0927AModel': WHATEVER THE INPUT: true; the input reads as it did. -/
def lawS0927AModelSpec : ChangeSpec := { name := "lawS0927AModel", fn := fun _ => fun
  | [d] => { results := [.lit (.bool true)], args := [d] }
  | _ => none }
def lawS0927AModelRow : OpenClaim := { program := "ybulksee", sum := "cb47104fc461c16edf8090b5b233441101c40cb7d8207b69e4ec703595ab123d", func := "example.com/tallymark/tallymark/micro.LawS0927AModel", spec := "lawS0927AModel", apart := false }
def LawS0927AModelSaid : Prop := lawS0927AModelRow.holds Yba.pinned (OpenSpec.ofChange lawS0927AModelSpec)

/-- ITS FALSE NEIGHBOUR: 'it returns false'. Refute it at one input. -/
def lawS0927AModelWrong : ChangeSpec := { name := "lawS0927AModel", fn := fun _ => fun
  | [d] => { results := [.lit (.bool false)], args := [d] }
  | _ => none }
def LawS0927AModelWrongFalsely : Prop := lawS0927AModelRow.holds Yba.pinned (OpenSpec.ofChange lawS0927AModelWrong)

/-- 'micro.LawS0927AConcat': WHATEVER THE INPUT: true; the input reads as it did. -/
def lawS0927AConcatSpec : ChangeSpec := { name := "lawS0927AConcat", fn := fun _ => fun
  | [d1, d2] => { results := [.lit (.bool true)], args := [d1, d2] }
  | _ => none }
def lawS0927AConcatRow : OpenClaim := { program := "ybulksee", sum := "cb47104fc461c16edf8090b5b233441101c40cb7d8207b69e4ec703595ab123d", func := "example.com/tallymark/tallymark/micro.LawS0927AConcat", spec := "lawS0927AConcat", apart := false }
def LawS0927AConcatSaid : Prop := lawS0927AConcatRow.holds Yba.pinned (OpenSpec.ofChange lawS0927AConcatSpec)

/-- ITS FALSE NEIGHBOUR: 'it returns false'. Refute it at one input. -/
def lawS0927AConcatWrong : ChangeSpec := { name := "lawS0927AConcat", fn := fun _ => fun
  | [d1, d2] => { results := [.lit (.bool false)], args := [d1, d2] }
  | _ => none }
def LawS0927AConcatWrongFalsely : Prop := lawS0927AConcatRow.holds Yba.pinned (OpenSpec.ofChange lawS0927AConcatWrong)

/-- 'micro.LawS0927ABuilt': WHATEVER THE INPUT: true; the input reads as it did. -/
def lawS0927ABuiltSpec : ChangeSpec := { name := "lawS0927ABuilt", fn := fun _ => fun
  | [d1, d2, d3, d4] => { results := [.lit (.bool true)], args := [d1, d2, d3, d4] }
  | _ => none }
def lawS0927ABuiltRow : OpenClaim := { program := "ybulksee", sum := "cb47104fc461c16edf8090b5b233441101c40cb7d8207b69e4ec703595ab123d", func := "example.com/tallymark/tallymark/micro.LawS0927ABuilt", spec := "lawS0927ABuilt", apart := false }
def LawS0927ABuiltSaid : Prop := lawS0927ABuiltRow.holds Yba.pinned (OpenSpec.ofChange lawS0927ABuiltSpec)

/-- ITS FALSE NEIGHBOUR: 'it returns false'. Refute it at one input. -/
def lawS0927ABuiltWrong : ChangeSpec := { name := "lawS0927ABuilt", fn := fun _ => fun
  | [d1, d2, d3, d4] => { results := [.lit (.bool false)], args := [d1, d2, d3, d4] }
  | _ => none }
def LawS0927ABuiltWrongFalsely : Prop := lawS0927ABuiltRow.holds Yba.pinned (OpenSpec.ofChange lawS0927ABuiltWrong)

/-- 'table.LawS0927BFresh': WHATEVER THE INPUT: true; the input reads as it did. -/
def lawS0927BFreshSpec : ChangeSpec := { name := "lawS0927BFresh", fn := fun _ => fun
  | [d1, d2, d3] => { results := [.lit (.bool true)], args := [d1, d2, d3] }
  | _ => none }
def lawS0927BFreshRow : OpenClaim := { program := "ybulksee", sum := "cb47104fc461c16edf8090b5b233441101c40cb7d8207b69e4ec703595ab123d", func := "example.com/tallymark/tallymark/table.LawS0927BFresh", spec := "lawS0927BFresh", apart := false }
def LawS0927BFreshSaid : Prop := lawS0927BFreshRow.holds Yba.pinned (OpenSpec.ofChange lawS0927BFreshSpec)

/-- ITS FALSE NEIGHBOUR: 'it returns false'. Refute it at one input. -/
def lawS0927BFreshWrong : ChangeSpec := { name := "lawS0927BFresh", fn := fun _ => fun
  | [d1, d2, d3] => { results := [.lit (.bool false)], args := [d1, d2, d3] }
  | _ => none }
def LawS0927BFreshWrongFalsely : Prop := lawS0927BFreshRow.holds Yba.pinned (OpenSpec.ofChange lawS0927BFreshWrong)

/-- 'table.LawS0927BColumns': WHATEVER THE INPUT: true; the input reads as it did. -/
def lawS0927BColumnsSpec : ChangeSpec := { name := "lawS0927BColumns", fn := fun _ => fun
  | [d1, d2] => { results := [.lit (.bool true)], args := [d1, d2] }
  | _ => none }
def lawS0927BColumnsRow : OpenClaim := { program := "ybulksee", sum := "cb47104fc461c16edf8090b5b233441101c40cb7d8207b69e4ec703595ab123d", func := "example.com/tallymark/tallymark/table.LawS0927BColumns", spec := "lawS0927BColumns", apart := false }
def LawS0927BColumnsSaid : Prop := lawS0927BColumnsRow.holds Yba.pinned (OpenSpec.ofChange lawS0927BColumnsSpec)

/-- ITS FALSE NEIGHBOUR: 'it returns false'. Refute it at one input. -/
def lawS0927BColumnsWrong : ChangeSpec := { name := "lawS0927BColumns", fn := fun _ => fun
  | [d1, d2] => { results := [.lit (.bool false)], args := [d1, d2] }
  | _ => none }
def LawS0927BColumnsWrongFalsely : Prop := lawS0927BColumnsRow.holds Yba.pinned (OpenSpec.ofChange lawS0927BColumnsWrong)

end Rows
end Go.Proofs.Ybulksee
