/-
  NARROWER THAN 'FOR EVERY INPUT', by the rows' own cells (each row's printed sentence says how): LawS0928CExact: ifaces, laid · LawS0928CScript: ifaces, laid.
  DERIVED. THE GIVEN ROWS OF THIS SEAT. 2 by the template 'for every input the law returns true; each argument reads behind the call as it read before'; 0 by the template 'total and deterministic' (their statements: YbulksesFmtTotals.lean).
  GIVEN WITH THE SEED: the statements are not yours to turn. If you find one false, say at which input.
  Laid BY PROGRAM, IN A SANDBOX (cutbox-rows.mjs): the forced cells as the released guide's own fill.sh prints them over the translation 25106edcb54d679e… (all of the seat's roots in one cut). By AI agents, Wed Nov 11 2026. No macro, syntax, notation, axiom, sorry.
-/
import Derived.Test.YbulksesFmtChecked
import GoSem.Claim
import GoSem.ClaimJoined
import GoSem.ClaimMapViews
import Derived.JoinedTies
import Derived.KernelRfl
namespace Go.Proofs.YbulksesFmt
/- THE CELL 'sum', in the pinned program and in every row, IS THE sha256 OF THE DUMP (.gsa) THAT YbulksesFmtProg.lean LOADS. Nothing in Lean hashes anything: it is a label: what it is worth is what the hold of that sum in a sandbox is worth. -/
noncomputable def Ybaf.pinned : Pinned := { name := "ybulksesfmt", sum := "25106edcb54d679e2549425e965e5779c20224d4b293a1426b8878e13c7f72f4", checked := Ybaf.checked }
namespace Rows
def none {H : Type} : Left H := { results := [], args := [] }

/- WHAT THE LISTED PACKAGE-LEVEL VARIABLES READ AS WHEN THE CALL BEGINS. Each datum BY PROGRAM (the guide's laid-datum.mjs) off the statement by which the dump's own 'gosem.cut.vars' lays the variable. In a bare row this is a premise. The card (YbulksesFmtCards.lean) ties it to the program's text. -/
def laid_example_com_antecede_antecede_errEmptyName {H : Type} : DataW H := .iface "*errors.errorString" (.ptr (.agg [.lit (.string [101, 109, 112, 116, 121, 32, 112, 114, 111, 99, 101, 115, 115, 32, 110, 97, 109, 101])]))
def laid_example_com_antecede_antecede_ErrOverflow {H : Type} : DataW H := .iface "*errors.errorString" (.ptr (.agg [.lit (.string [99, 111, 117, 110, 116, 32, 119, 111, 117, 108, 100, 32, 112, 97, 115, 115, 32, 49, 56, 52, 52, 54, 55, 52, 52, 48, 55, 51, 55, 48, 57, 53, 53, 49, 54, 49, 53])]))

/-- 'antecede.LawS0928CExact': WHATEVER THE INPUT: true; the input reads as it did. -/
def lawS0928CExactSpec : ChangeSpec := { name := "lawS0928CExact", vars := ["example.com/antecede/antecede.ErrOverflow", "example.com/antecede/antecede.errEmptyName"], fn := fun _ => fun
  | [d1, d2, d3, g1, g2] => { results := [.lit (.bool true)], args := [d1, d2, d3], vars := [g1, g2] }
  | _ => none }
def lawS0928CExactRow : OpenClaim := { program := "ybulksesfmt", sum := "25106edcb54d679e2549425e965e5779c20224d4b293a1426b8878e13c7f72f4", func := "example.com/antecede/antecede.LawS0928CExact", spec := "lawS0928CExact", stops := ["fmt.errorf"], inPlace := ["fmt.errorf", "(*internal/sync.Mutex).Lock", "internal/race.Disable", "sync/atomic.CompareAndSwapInt32", "internal/race.Enable", "internal/race.Acquire", "(*internal/sync.Mutex).lockSlow", "internal/sync.runtime_canSpin", "internal/sync.runtime_doSpin", "internal/sync.throw", "internal/sync.runtime_nanotime", "internal/sync.runtime_SemacquireMutex", "sync/atomic.AddInt32", "(*internal/sync.Mutex).Unlock", "internal/race.ReleaseMerge", "(*internal/sync.Mutex).unlockSlow", "internal/sync.fatal", "internal/sync.runtime_Semrelease", "internal/reflectlite.TypeOf"], unfollowed := true, recurses := true, named := ["example.com/antecede/antecede.ErrOverflow", "example.com/antecede/antecede.errEmptyName"], ifaces := true, apart := false, laid := [("example.com/antecede/antecede.errEmptyName", laid_example_com_antecede_antecede_errEmptyName), ("example.com/antecede/antecede.ErrOverflow", laid_example_com_antecede_antecede_ErrOverflow)] }
/-- NO THEOREM (fmt's text is open here; it may be false): for the released tool's asking of the row's closed facts alone. THE STATEMENT IS 'LawS0928CExactToldSaid' (YbulksesFmtCards.lean). -/
def LawS0928CExactFormAsk : Prop := lawS0928CExactRow.holds Ybaf.pinned (OpenSpec.ofChange lawS0928CExactSpec)

/-- ITS FALSE NEIGHBOUR: 'it returns false'. Refute it at one input. -/
def lawS0928CExactWrong : ChangeSpec := { name := "lawS0928CExact", vars := ["example.com/antecede/antecede.ErrOverflow", "example.com/antecede/antecede.errEmptyName"], fn := fun _ => fun
  | [d1, d2, d3, g1, g2] => { results := [.lit (.bool false)], args := [d1, d2, d3], vars := [g1, g2] }
  | _ => none }
def LawS0928CExactWrongFormAsk : Prop := lawS0928CExactRow.holds Ybaf.pinned (OpenSpec.ofChange lawS0928CExactWrong)

/-- 'antecede.LawS0928CScript': WHATEVER THE INPUT: true; the input reads as it did. -/
def lawS0928CScriptSpec : ChangeSpec := { name := "lawS0928CScript", vars := ["example.com/antecede/antecede.errEmptyName", "example.com/antecede/antecede.ErrOverflow"], fn := fun _ => fun
  | [d1, d2, d3, g1, g2] => { results := [.lit (.bool true)], args := [d1, d2, d3], vars := [g1, g2] }
  | _ => none }
def lawS0928CScriptRow : OpenClaim := { program := "ybulksesfmt", sum := "25106edcb54d679e2549425e965e5779c20224d4b293a1426b8878e13c7f72f4", func := "example.com/antecede/antecede.LawS0928CScript", spec := "lawS0928CScript", stops := ["fmt.errorf"], inPlace := ["fmt.errorf", "(*internal/sync.Mutex).Lock", "internal/race.Disable", "sync/atomic.CompareAndSwapInt32", "internal/race.Enable", "internal/race.Acquire", "(*internal/sync.Mutex).lockSlow", "internal/sync.runtime_canSpin", "internal/sync.runtime_doSpin", "internal/sync.throw", "internal/sync.runtime_nanotime", "internal/sync.runtime_SemacquireMutex", "sync/atomic.AddInt32", "(*internal/sync.Mutex).Unlock", "internal/race.ReleaseMerge", "(*internal/sync.Mutex).unlockSlow", "internal/sync.fatal", "internal/sync.runtime_Semrelease"], named := ["example.com/antecede/antecede.errEmptyName", "example.com/antecede/antecede.ErrOverflow"], ifaces := true, apart := false, laid := [("example.com/antecede/antecede.errEmptyName", laid_example_com_antecede_antecede_errEmptyName), ("example.com/antecede/antecede.ErrOverflow", laid_example_com_antecede_antecede_ErrOverflow)] }
/-- NO THEOREM (fmt's text is open here; it may be false): for the released tool's asking of the row's closed facts alone. THE STATEMENT IS 'LawS0928CScriptToldSaid' (YbulksesFmtCards.lean). -/
def LawS0928CScriptFormAsk : Prop := lawS0928CScriptRow.holds Ybaf.pinned (OpenSpec.ofChange lawS0928CScriptSpec)

/-- ITS FALSE NEIGHBOUR: 'it returns false'. Refute it at one input. -/
def lawS0928CScriptWrong : ChangeSpec := { name := "lawS0928CScript", vars := ["example.com/antecede/antecede.errEmptyName", "example.com/antecede/antecede.ErrOverflow"], fn := fun _ => fun
  | [d1, d2, d3, g1, g2] => { results := [.lit (.bool false)], args := [d1, d2, d3], vars := [g1, g2] }
  | _ => none }
def LawS0928CScriptWrongFormAsk : Prop := lawS0928CScriptRow.holds Ybaf.pinned (OpenSpec.ofChange lawS0928CScriptWrong)

end Rows
end Go.Proofs.YbulksesFmt
