import Derived.Test.YbulksesHas
namespace Go.Proofs.Ybulkses
open Go.RowKit

theorem hasL_spliced (a l b : ByteArray) : hasL (a.data.toList ++ (l.data.toList ++ b.data.toList)) a.size l.data.toList = true := by
  unfold hasL
  rw [← len_data a]
  simp

theorem grown_drewN (w : World) (n : Nat) : Grown w (w.drewN n) := by
  induction n with
  | zero => exact Grown.refl _
  | succ n ih => exact ih.drew

set_option maxHeartbeats 1000000 in
theorem spliced_any (a l b : ByteArray) (w : World) (ha : a.size ≤ 1024) (hl : l.size ≤ 1024) (hb : b.size ≤ 1024) :
    Calls Yba.prog 4 #[.string a, .string l, .string b] w fun e w' => e = .returned (.bool true) ∧ Grown w w' := by
  have hz : (a ++ l ++ b).size = a.size + l.size + b.size := by rw [ByteArray.size_append, ByteArray.size_append]
  have HZ : Hid _ := hz
  clear hz
  have HS : Hid _ := hasL_spliced a l b
  go_enter Yba.func4, Yba.ntmps4
  go_wp2_with (go_at_call 6; refine (hasLiteral_any _ _ _ _ (by rw [HZ.out]; omega) (by omega) (by omega)).mono ?_; rintro e w' ⟨rfl, n, rfl⟩)
  go_ret
  exact ⟨ret_bool HS.out, grown_drewN _ _⟩
end Go.Proofs.Ybulkses
