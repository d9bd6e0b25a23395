/- errors.Is, by its contracts (after the kit's worked text of errors.Is over sentinels). -/
import Derived.Test.YbulksesFmtFmt
import Derived.LaidEql
import Derived.Stop.Asserts
import Derived.RowKitTokens
namespace Go.Proofs.YbulksesFmt
open Go.RowKit Go.Extern.Stop Go.Stop Go.Extern

theorem isTypeOf (v : Value) (w : World) : (Extern.ReflectliteType.typeOf #[.iface 93 v]).run Ybaf.prog w = .ok (.iface 83 (.agg #[.pointer (some ⟨2, 93, none⟩)])) w := by kernel_rfl
theorem callComparable (w : World) : Sem.run Ybaf.prog (callFunc 78 #[.agg #[.pointer (some ⟨2, 93, none⟩)]]) w = .ok (.value (.bool true)) w := by kernel_rfl
theorem isMethodComparable (v : Value) (w : World) : (Go.method 252 83 v "Comparable").run Ybaf.prog w = .ok (78, v) w := by kernel_rfl
theorem isComp : (Ybaf.prog.info? 93).map (·.comparable) = some true := by kernel_rfl
theorem isSize : (Ybaf.prog.info? 95).map (·.size) = some 1 := by kernel_rfl
theorem noIsW (v : Value) (xT : TypeId) (w : World) : (Instr.typeAssert (.iface 77 v) xT 85 true).run Ybaf.prog w = .ok (.tuple #[.nilIface, .bool false]) w := run_typeAssert_lacksB Ybaf.underlying85 (by kernel_rfl) (by kernel_rfl) v xT w
theorem hasUnwrapW (v : Value) (xT : TypeId) (w : World) : (Instr.typeAssert (.iface 77 v) xT 88 true).run Ybaf.prog w = .ok (.tuple #[.iface 77 v, .bool true]) w := run_typeAssert_hasB Ybaf.underlying88 (by kernel_rfl) v xT w
theorem methodUnwrap (v : Value) (w : World) : (Go.method 252 77 v "Unwrap").run Ybaf.prog w = .ok (74, v) w := by kernel_rfl

set_option maxRecDepth 20000 in
/-- errors.Is(e, x), e a wrapError that wraps x itself: one Unwrap, then equal. -/
theorem is_wrap_same (pb po : Nat) (b : Addr) (w : World) (h1 : w.cell? ⟨pb, po + 1, none⟩ = some (.iface 93 (.pointer (some b)))) :
    Calls Ybaf.prog 12 #[.iface 77 (.pointer (some ⟨pb, po, none⟩)), .iface 93 (.pointer (some b))] w fun e w' => e = .returned (.bool true) ∧ w' = w := by
  obtain ⟨i, hi, hcmp⟩ := Option.map_eq_some_iff.1 isComp
  obtain ⟨j, hj, hjs⟩ := Option.map_eq_some_iff.1 isSize
  have h8 := @run_callFunc_extern Ybaf.prog 25 _ Extern.ReflectliteType.typeOf Ybaf.func25 (by kernel_rfl) (by kernel_rfl) (by kernel_rfl) (by kernel_rfl)
  have cT := callComparable
  have tT := isTypeOf
  have mR := isMethodComparable
  have nW := noIsW
  have uW := hasUnwrapW
  have mU := methodUnwrap
  have heq := run_eql_iface_ptr_same (P := Ybaf.prog) w b Ybaf.underlying27 Ybaf.underlying93 hi hcmp hj
  have hty := run_eql_iface_types (P := Ybaf.prog) 77 93 (.pointer (some ⟨pb, po, none⟩)) (.pointer (some b)) Ybaf.underlying27 (by decide) w
  go_enter Ybaf.func12, Ybaf.ntmps12
  go_wp2
  refine wp_loop_rounds 2 ?_
  rw [rounds_succ]
  go_wp2
  rw [rounds_succ]
  go_wp2
  go_ret
  exact ⟨rfl, rfl⟩
end Go.Proofs.YbulksesFmt
