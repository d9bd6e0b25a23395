/- countList: len, get, patched, set, over a list that has no tail. -/
import Derived.Test.YbulksesFmtProg
import Derived.WalkKit
import Derived.WalkSpells
import Derived.Deep.QuietTactic
import Derived.BigQuiet
import Derived.BigRegion
import Derived.Deep.RegionWith
import Derived.Deep.DeepMust
namespace Go.Proofs.YbulksesFmt
open Go.RowKit

/-- A countList's four cells, with no tail. -/
structure CL (w : World) (b o : Nat) (v : Value) (at_ : Nat) (p : Int) : Prop where
  c0 : w.cell? ⟨b, o, none⟩ = some v
  c1 : w.cell? ⟨b, o + 1, none⟩ = some (.pointer none)
  c2 : w.cell? ⟨b, o + 2, none⟩ = some (.int .i64 at_)
  c3 : w.cell? ⟨b, o + 3, none⟩ = some (.int .u64 p)

theorem CL.drewN {w : World} {b o : Nat} {v : Value} {at_ : Nat} {p : Int} (C : CL w b o v at_ p) (n : Nat) : CL (w.drewN n) b o v at_ p := ⟨C.c0, C.c1, C.c2, C.c3⟩

theorem len_any (b o : Nat) (ao : Option Addr) (n cap at_ : Nat) (p : Int) (w : World) (C : CL w b o (.slice ao n cap) at_ p) :
    Calls Ybaf.prog 16 #[.pointer (some ⟨b, o, none⟩)] w fun e w' => e = .returned (.int .i64 n) ∧ w' = w := by
  obtain ⟨c0, c1, c2, c3⟩ := C
  go_enter Ybaf.func16, Ybaf.ntmps16
  go_wp2
  go_ret
  exact ⟨rfl, rfl⟩

theorem patched_any (b o : Nat) (v : Value) (at_ : Nat) (p : Int) (w : World) (C : CL w b o v at_ p) (ha : at_ ≤ 10001) :
    Calls Ybaf.prog 43 #[.pointer (some ⟨b, o, none⟩)] w fun e w' => e = .returned (.tuple #[.int .i64 ((at_ : Int) - 1), .bool ((at_ : Int) != 0)]) ∧ ∃ k, w' = w.drewN k := by
  obtain ⟨c0, c1, c2, c3⟩ := C
  have hw : IntKind.i64.wrap ((at_ : Int) - 1) = (at_ : Int) - 1 := by rw [IntKind.wrap_i64]; omega
  go_enter Ybaf.func43, Ybaf.ntmps43
  go_wp2_with fail
  go_quiet (fail)
  go_wp2
  go_ret2
  exact ⟨rfl, _, rfl⟩

theorem get_patch (b o : Nat) (v : Value) (at_ i : Nat) (p : Int) (w : World) (C : CL w b o v at_ p) (hi : at_ = i + 1) (hn : i ≤ 10000) :
    Calls Ybaf.prog 31 #[.pointer (some ⟨b, o, none⟩), .int .i64 i] w fun e w' => e = .returned (.int .u64 p) ∧ w' = w := by
  subst hi
  obtain ⟨c0, c1, c2, c3⟩ := C
  have ht : ((i : Int) == (i : Int) + 1 - 1) = true := by simp
  go_enter Ybaf.func31, Ybaf.ntmps31
  go_wp2
  go_ret
  exact ⟨rfl, rfl⟩

theorem get_head (b o g off n cap : Nat) (at_ i : Nat) (p x : Int) (w : World) (C : CL w b o (.slice (some ⟨g, off, none⟩) n cap) at_ p) (hi : at_ ≠ i + 1) (hn : i < n) (ha : at_ ≤ 10000)
    (hc : w.cell? ⟨g, off + i, none⟩ = some (.int .u64 x)) :
    Calls Ybaf.prog 31 #[.pointer (some ⟨b, o, none⟩), .int .i64 i] w fun e w' => e = .returned (.int .u64 x) ∧ w' = w := by
  obtain ⟨c0, c1, c2, c3⟩ := C
  have ht : ((i : Int) == (at_ : Int) - 1) = false := by simp; omega
  go_enter Ybaf.func31, Ybaf.ntmps31
  go_wp2
  go_ret
  exact ⟨rfl, rfl⟩

set_option maxHeartbeats 1000000 in
/-- 'set' at the place of the patch, or where there is none. -/
theorem set_any (b o : Nat) (v : Value) (at_ i : Nat) (p n : Int) (w : World) (C : CL w b o v at_ p) (hi : at_ = 0 ∨ at_ = i + 1) (hn : i ≤ 10000)
    (f2 : w.frozen? ⟨b, o + 2, none⟩ = false) (f3 : w.frozen? ⟨b, o + 3, none⟩ = false) :
    Calls Ybaf.prog 33 #[.pointer (some ⟨b, o, none⟩), .int .i64 i, .int .u64 n] w fun e w' => e = .returned (.tuple #[]) ∧ ∃ k, w' = ((w.setCell ⟨b, o + 2, none⟩ (.int .i64 ((i : Int) + 1))).setCell ⟨b, o + 3, none⟩ (.int .u64 n)).drewN k := by
  rcases hi with hi | hi
  · subst hi
    have C' := C
    obtain ⟨c0, c1, c2, c3⟩ := C
    go_enter Ybaf.func33, Ybaf.ntmps33
    go_wp2_with (go_at_call 43; refine (patched_any b o v 0 p _ C' (by omega)).mono ?_; rintro e w' ⟨rfl, k, rfl⟩)
    go_end0
    exact ⟨rfl, _, rfl⟩
  · have C' := C
    obtain ⟨c0, c1, c2, c3⟩ := C
    have ht : ((at_ : Int) != 0) = true := by simp; omega
    have hx : ((at_ : Int) - 1 != (i : Int)) = false := by simp; omega
    have ha : at_ ≤ 10001 := by omega
    have HI : Hid _ := hi
    clear hi
    go_enter Ybaf.func33, Ybaf.ntmps33
    go_wp2_with (go_at_call 43; go_must (refine (patched_any b o v at_ p _ C' (by omega)).mono ?_; rintro e w' ⟨rfl, k, rfl⟩))
    go_end0
    exact ⟨rfl, _, rfl⟩
end Go.Proofs.YbulksesFmt
