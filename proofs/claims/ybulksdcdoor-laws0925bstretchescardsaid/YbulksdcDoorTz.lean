/- math/bits.TrailingZeros64 over this program (function 9), by the de Bruijn table. -/
import Derived.Test.YbulksdcDoorProg
import Derived.WalkKit
import Derived.Laws.Bits64b
import Derived.Lib.TrailingZeros
namespace Go.Proofs.YbulksdcDoor
open Go.RowKit

/-- The table in its variable. -/
def TabAt (g : Nat) (tab : List Nat) (w : World) : Prop := ∀ j, j < tab.length → w.cell? ⟨g, j, none⟩ = some (.int .u8 (tab.getD j 0))

set_option maxHeartbeats 1000000 in
theorem tz_core (x k idx : Nat) (w : World) (hx0 : ((x : Int) == 0) = false)
    (key : IntKind.u64.wrap (bits BinOp.and IntKind.u64 (x : Int) (IntKind.u64.wrap (-(x : Int))) * 285870213051353865) / 288230376151711744 = (idx : Int))
    (hi : idx < 64) (hk : k < 64) (hcell : w.cell? ⟨0, idx, none⟩ = some (.int .u8 k)) :
    Calls Ybad.prog 9 #[.int .u64 x] w fun e w' => e = .returned (.int .i64 k) ∧ w' = w := by
  go_enter Ybad.func9, Ybad.ntmps9
  go_wp2_with (simp only [key])
  go_ret
  exact ⟨rfl, rfl⟩

theorem tz_zero (w : World) :
    Calls Ybad.prog 9 #[.int .u64 0] w fun e w' => e = .returned (.int .i64 64) ∧ w' = w := by
  go_enter Ybad.func9, Ybad.ntmps9
  go_wp2
  go_ret
  exact ⟨rfl, rfl⟩

theorem tz_key (x a : Nat) (hx : x < 18446744073709551616) (hx0 : x ≠ 0) (hlow : x &&& (18446744073709551616 - x) = a) :
    IntKind.u64.wrap (bits BinOp.and IntKind.u64 (x : Int) (IntKind.u64.wrap (-(x : Int))) * 285870213051353865) / 288230376151711744 = ((a * 285870213051353865 % 18446744073709551616 / 288230376151711744 : Nat) : Int) := by
  have e1 : IntKind.u64.wrap (-(x : Int)) = ((18446744073709551616 - x : Nat) : Int) := by rw [IntKind.wrap_u64]; omega
  rw [e1, bits_and_u64_nat x _ hx (by omega), hlow, IntKind.wrap_u64]
  omega

theorem tz_any (x : Nat) (hx : x < 18446744073709551616) (w : World) (hT : TabAt 0 Lib.deBruijn64tab w) :
    Calls Ybad.prog 9 #[.int .u64 x] w fun e w' => e = .returned (.int .i64 (Lib.ctz 64 x)) ∧ w' = w := by
  by_cases hx0 : x = 0
  · subst hx0
    exact tz_zero w
  · obtain ⟨hlow, hk⟩ := Lib.lowest_bit 64 x hx0 hx
    obtain ⟨hi, htab⟩ := Lib.deBruijn64_at _ hk
    have hcell := hT _ hi
    rw [htab] at hcell
    exact tz_core x _ _ w (by simp; omega) (tz_key x _ hx hx0 hlow) hi hk hcell
end Go.Proofs.YbulksdcDoor
