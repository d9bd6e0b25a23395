import Derived.Test.YbulkseeProg
import Derived.WalkKit
namespace Go.Proofs.Ybulksee
open Go.RowKit

/-- A digit's byte. -/
def dg (c : UInt8) : Bool := decide (48 ≤ c.toNat) && decide (c.toNat ≤ 57)
/-- Not empty, and digits alone. -/
def digs (l : List UInt8) : Bool := !l.isEmpty && l.all dg

theorem take_snoc (s : ByteArray) (k : Nat) (h : k < s.size) : s.data.toList.take (k + 1) = s.data.toList.take k ++ [s[k]] := by
  rw [List.take_succ_eq_append_getElem (by simpa using h)]; rfl

theorem dg_iff (c : UInt8) : dg c = true ↔ 48 ≤ (c.toNat : Int) ∧ (c.toNat : Int) ≤ 57 := by
  unfold dg; simp; omega

theorem digs_bad (s : ByteArray) (k : Nat) (h : k < s.size) (hd : ¬ (48 ≤ (s[k].toNat : Int) ∧ (s[k].toNat : Int) ≤ 57)) : digs s.data.toList = false := by
  unfold digs
  have : s.data.toList.all dg = false := by
    rw [List.all_eq_false]
    exact ⟨s[k], by rw [show s[k] = s.data[k]'h from rfl]; simp, by rw [dg_iff]; exact hd⟩
  rw [this, Bool.and_false]

theorem digs_step (s : ByteArray) (k : Nat) (h : k < s.size) (ha : (s.data.toList.take k).all dg = true) (hd : 48 ≤ (s[k].toNat : Int) ∧ (s[k].toNat : Int) ≤ 57) : (s.data.toList.take (k + 1)).all dg = true := by
  rw [take_snoc s k h, List.all_append, ha]
  simp [(dg_iff _).2 hd]

theorem ret_bool {a b : Bool} (h : a = b) : Ending.returned (.bool a) = .returned (.bool b) := by rw [h]

set_option maxHeartbeats 400000 in
theorem isDigits_any (s : ByteArray) (w : World) (hs : s.size ≤ 2000) :
    Calls Yba.prog 8 #[.string s] w fun e w' => e = .returned (.bool (digs s.data.toList)) ∧ w' = w := by
  go_enter Yba.func8, Yba.ntmps8
  go_wp2
  go_loop [3] (fun i => ∃ k : Nat, k ≤ s.size ∧ i = .int .i64 k ∧ Hid ((s.data.toList.take k).all dg = true)) (fun i => s.size - (intOf i).toNat)
  case atStart => exact ⟨0, Nat.zero_le _, rfl, rfl⟩
  case round =>
    obtain ⟨k, hk, rfl, HA⟩ := hrel
    by_cases hlt : k < s.size
    · go_wp2
      · go_ret
        exact ⟨ret_bool (digs_bad s k hlt (by omega)).symm, rfl⟩
      · go_round
        case rel => exact ⟨k + 1, by omega, by go_num, digs_step s k hlt HA.out (by omega)⟩
        case measure => simp [intOf]; omega
      · go_ret
        exact ⟨ret_bool (digs_bad s k hlt (by omega)).symm, rfl⟩
    · go_wp2
      go_ret
      refine ⟨ret_bool ?_, rfl⟩
      rw [ByteArray.toList_eq]
      have hA := HA.out
      rw [List.take_of_length_le (by simp; omega)] at hA
      unfold digs
      rw [hA, Bool.and_true]
end Go.Proofs.Ybulksee
