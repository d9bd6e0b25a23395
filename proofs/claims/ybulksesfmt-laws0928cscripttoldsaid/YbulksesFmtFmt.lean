/- The closed facts on fmt.errorf (function 27, a plain stop) over this program, after the worked text of the toy 'guard'. -/
import Derived.Test.YbulksesFmtProg
import Derived.Stop.CallBack
import Derived.Stop.IfaceNil
import GoSem.ClaimData
import Derived.WalkKit
import Derived.WalkSpells
namespace Go.Proofs.YbulksesFmt
open Go.Extern.Stop Go.Stop Go.Extern

theorem call27 (args : Array Value) (w : World) : (callFunc 27 args).run Ybaf.prog w = ((FmtStop.errorf #[9, 76] #[27] args).run Ybaf.prog w).andThen fun v w' => .ok (.value v) w' :=
  run_callFunc_extern Ybaf.func27 (by kernel_rfl) (by kernel_rfl) (by kernel_rfl) (by kernel_rfl) args w

attribute [local go_sem] call27
theorem fguard (name : String) (w : World) : (FmtStop.guard name).run Ybaf.prog w = .ok () w := by kernel_rfl

-- the format of 'overflow', two operands
attribute [local go_sem] fguard
theorem fmt0 : FmtStop.printed? ⟨#[112, 114, 111, 99, 101, 115, 115, 32, 37, 113, 58, 32, 37, 119]⟩ 2 = some [(0, 113, false), (1, 119, false)] := by kernel_rfl
attribute [local go_sem] fmt0
theorem fmt0r (w : World) : (FmtDoors.printed ⟨#[112, 114, 111, 99, 101, 115, 115, 32, 37, 113, 58, 32, 37, 119]⟩ 2).run Ybaf.prog w = .ok [(0, 113, false), (1, 119, false)] w := by kernel_rfl

-- the format of Receive's refusal, three operands
attribute [local go_sem] fmt0r
theorem fmt1 : FmtStop.printed? ⟨#[112, 114, 111, 99, 101, 115, 115, 32, 37, 113, 58, 32, 116, 104, 101, 32, 97, 116, 116, 97, 99, 104, 101, 100, 32, 116, 105, 109, 101, 115, 116, 97, 109, 112, 32, 104, 97, 115, 32, 37, 100, 32, 101, 110, 116, 114, 105, 101, 115, 44, 32, 116, 104, 101, 32, 99, 108, 111, 99, 107, 32, 37, 100]⟩ 3 = some [(0, 113, false), (1, 100, false), (2, 100, false)] := by kernel_rfl
attribute [local go_sem] fmt1
theorem fmt1r (w : World) : (FmtDoors.printed ⟨#[112, 114, 111, 99, 101, 115, 115, 32, 37, 113, 58, 32, 116, 104, 101, 32, 97, 116, 116, 97, 99, 104, 101, 100, 32, 116, 105, 109, 101, 115, 116, 97, 109, 112, 32, 104, 97, 115, 32, 37, 100, 32, 101, 110, 116, 114, 105, 101, 115, 44, 32, 116, 104, 101, 32, 99, 108, 111, 99, 107, 32, 37, 100]⟩ 3).run Ybaf.prog w = .ok [(0, 113, false), (1, 100, false), (2, 100, false)] w := by kernel_rfl

attribute [local go_sem] fmt1r
def shape9 : List UInt8 := [12, 6, 0, 0, 0, 0, 0, 0, 0, 115, 116, 114, 105, 110, 103]
theorem op9_113w (name : String) (x : ByteArray) (w : World) : (FmtStop.operand name true 113 false (.iface 9 (.string x))).run Ybaf.prog w = .ok (shape9, FmtStop.pack x.data.toList) w := by kernel_rfl
attribute [local go_sem] op9_113w
def shape3 : List UInt8 := [5, 3, 0, 0, 0, 0, 0, 0, 0, 105, 110, 116]
theorem op3_100w (name : String) (x : Int) (w : World) : (FmtStop.operand name true 100 false (.iface 3 (.int .i64 x))).run Ybaf.prog w = .ok (shape3, Go.Extern.Stop.digits 8 (x % 2 ^ 64).toNat) w := by kernel_rfl

attribute [local go_sem] op3_100w
theorem ptr93 (w : World) : (FmtStop.ptrTo "errors.errorString").run Ybaf.prog w = .ok 93 w := by kernel_rfl
attribute [local go_sem] ptr93
theorem elem93 (w : World) : (elemOf 93).run Ybaf.prog w = .ok 95 w := by kernel_rfl
attribute [local go_sem] elem93
theorem isError93 (w : World) : (FmtDoors.textMethod 93 "Error").run Ybaf.prog w = .ok true w := by kernel_rfl
attribute [local go_sem] isError93
theorem opPlain93_119w (name : String) (a : Addr) (s : ByteArray) (w : World) (hc : w.cell? a = some (.string s)) :
    ∃ pl, (FmtStop.operand name true 119 false (.iface 93 (.pointer (some a)))).run Ybaf.prog w = .ok (pl, s.data.toList) w := by
  obtain ⟨nm, h1⟩ : ∃ nm, (typeStr 93).run Ybaf.prog w = .ok nm w := ⟨(Ybaf.prog.typeName? 3 93).getD "", by kernel_rfl⟩
  have d2 : Ybaf.t93.desc = .pointer 95 := rfl
  have d3 : Ybaf.t95.desc = .named "errors.errorString" 94 := rfl
  exact ⟨14 :: FmtStop.pack nm.toUTF8.data.toList, by simp [FmtStop.operand, h1, d2, d3, run_load, hc]⟩
theorem ptr77 (w : World) : (FmtStop.ptrTo "fmt.wrapError").run Ybaf.prog w = .ok 77 w := by kernel_rfl
attribute [local go_sem] ptr77
theorem elem77 (w : World) : (elemOf 77).run Ybaf.prog w = .ok 139 w := by kernel_rfl
attribute [local go_sem] elem77
theorem isError77 (w : World) : (FmtDoors.textMethod 77 "Error").run Ybaf.prog w = .ok true w := by kernel_rfl

attribute [local go_sem] isError77
set_option maxHeartbeats 1000000 in
/-- 'overflow(process)': a new *fmt.wrapError that holds the sentinel. -/
theorem overflow_any (F : Interp) (nm : ByteArray) (a : Addr) (s : ByteArray) (w : World) (hF : F.answers w.tape) (hg : w.cell? ⟨0, 0, none⟩ = some (.iface 93 (.pointer (some a))))
    (hs : ∀ o, (w.alloc o).cell? a = some (.string s)) :
    Calls Ybaf.prog 32 #[.string nm] w fun e w' => ∃ txt, e = .returned (.iface 77 (.pointer (some ⟨w.heap.size + 1, 0, none⟩))) ∧
      w' = ((w.alloc (.cells #[.iface 9 (.string nm), .iface 93 (.pointer (some a))] 20)).alloc (.cells #[.string txt, .iface 93 (.pointer (some a))] 139)).drew := by
  have hF' := answers_open hF
  obtain ⟨pl, hop⟩ := opPlain93_119w "fmt.errorf" a s _ (hs (.cells #[.iface 9 (.string nm), .iface 93 (.pointer (some a))] 20))
  go_enter Ybaf.func32, Ybaf.ntmps32
  go_wp2
  go_ret
  exact ⟨_, rfl, rfl⟩

set_option maxHeartbeats 1000000 in
/-- fmt.Errorf at Receive's refusal: a new error of errors.New's make. -/
theorem errorf3 (F : Interp) (nm : ByteArray) (x y : Int) (g : Nat) (w : World) (hF : F.answers w.tape) (h0 : w.cell? ⟨g, 0, none⟩ = some (.iface 9 (.string nm)))
    (h1 : w.cell? ⟨g, 1, none⟩ = some (.iface 3 (.int .i64 x))) (h2 : w.cell? ⟨g, 2, none⟩ = some (.iface 3 (.int .i64 y))) :
    Calls Ybaf.prog 17 #[.string { data := #[112, 114, 111, 99, 101, 115, 115, 32, 37, 113, 58, 32, 116, 104, 101, 32, 97, 116, 116, 97, 99, 104, 101, 100, 32, 116, 105, 109, 101, 115, 116, 97, 109, 112, 32, 104, 97, 115, 32, 37, 100, 32, 101, 110, 116, 114, 105, 101, 115, 44, 32, 116, 104, 101, 32, 99, 108, 111, 99, 107, 32, 37, 100] }, .slice (some ⟨g, 0, none⟩) 3 3] w fun e w' => ∃ o, e = .returned (.iface 93 (.pointer (some ⟨w.heap.size, 0, none⟩))) ∧ w' = (w.alloc o).drew := by
  have hF' := answers_open hF
  go_enter Ybaf.func17, Ybaf.ntmps17
  go_wp2
  go_ret
  exact ⟨_, rfl, rfl⟩
end Go.Proofs.YbulksesFmt
