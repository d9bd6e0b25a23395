import Derived.Test.YbulksesHas
import Derived.Lib.Strings
import Derived.Deep.DeepMust
namespace Go.Proofs.Ybulkses
open Go.RowKit

theorem grown_drewN (w : World) (n : Nat) : Grown w (w.drewN n) := by
  induction n with
  | zero => exact Grown.refl _
  | succ n ih => exact ih.drew

theorem pre_eq (s p : ByteArray) (h : p.size ≤ s.size) : ((s.extract 0 p.size).toList == p.toList) = hasL s.data.toList 0 p.data.toList := by
  unfold hasL
  rw [ByteArray.toList_eq, ByteArray.toList_eq, Lib.extract_data, len_data, len_data, decide_eq_true (show 0 + p.size ≤ s.size by omega), Bool.true_and, Bool.eq_iff_iff]
  simp

set_option maxHeartbeats 1000000 in
theorem hasPrefix8 (s p : ByteArray) (w : World) :
    Calls Yba.prog 8 #[.string s, .string p] w fun e w' => e = .returned (.bool (hasL s.data.toList 0 p.data.toList)) ∧ w' = w := by
  by_cases h : p.size ≤ s.size
  · have HP : Hid _ := pre_eq s p h
    go_enter Yba.func8, Yba.ntmps8
    go_wp2
    go_ret
    exact ⟨ret_bool (by first | exact HP.out | simpa using HP.out), rfl⟩
  · have HP : Hid _ := hasL_short s p 0 (by omega)
    go_enter Yba.func8, Yba.ntmps8
    go_wp2
    go_ret
    exact ⟨ret_bool HP.out.symm, rfl⟩

theorem hasPrefix_any (s p : ByteArray) (w : World) :
    Calls Yba.prog 7 #[.string s, .string p] w fun e w' => e = .returned (.bool (hasL s.data.toList 0 p.data.toList)) ∧ w' = w := by
  go_enter Yba.func7, Yba.ntmps7
  go_wp2_with (go_at_call 8; refine (hasPrefix8 _ _ _).mono ?_; rintro e w' ⟨rfl, rfl⟩)
  go_ret
  exact ⟨rfl, rfl⟩

theorem hasL_tail (t l : ByteArray) (a : Nat) (h : a ≤ t.size) : hasL (t.extract a t.size).data.toList 0 l.data.toList = hasL t.data.toList a l.data.toList := by
  unfold hasL
  rw [Lib.extract_data]
  have e : (t.data.toList.drop a).take (t.size - a) = t.data.toList.drop a := List.take_of_length_le (by rw [List.length_drop, len_data]; omega)
  rw [e, List.length_drop, List.drop_zero, len_data, len_data]
  congr 1
  rw [decide_eq_decide]
  omega

set_option maxHeartbeats 1000000 in
theorem spec_in (t l : ByteArray) (p a : Nat) (w : World) (hp : p ≤ 65535) (ht : t.size ≤ 1024) (hl : l.size ≤ 1024) (ha : (p : Int) % ((t.size : Int) + 3) = (a : Int)) (hat : a ≤ t.size) :
    Calls Yba.prog 3 #[.string t, .int .u16 p, .string l] w fun e w' => e = .returned (.bool true) ∧ Grown w w' := by
  have HT : Hid _ := hasL_tail t l a hat
  go_enter Yba.func3, Yba.ntmps3
  go_wp2_with fail
  simp only [ha]
  refine (hasLiteral_any t l a w (by omega) (by omega) (by omega)).mono ?_
  rintro e w' ⟨rfl, n, rfl⟩
  go_wp2_with (go_at_call 7; go_must (refine (hasPrefix_any _ _ _).mono ?_; rintro e w' ⟨rfl, rfl⟩; rw [HT.out]))
  go_ret
  exact ⟨ret_bool (by simp), grown_drewN _ _⟩

set_option maxHeartbeats 1000000 in
theorem spec_out (t l : ByteArray) (p a : Nat) (w : World) (hp : p ≤ 65535) (ht : t.size ≤ 1024) (hl : l.size ≤ 1024) (ha : (p : Int) % ((t.size : Int) + 3) = (a : Int)) (hat : ¬ a ≤ t.size) (ha2 : a ≤ 2000) :
    Calls Yba.prog 3 #[.string t, .int .u16 p, .string l] w fun e w' => e = .returned (.bool true) ∧ Grown w w' := by
  have HF : Hid _ := hasL_short t l a (by omega)
  go_enter Yba.func3, Yba.ntmps3
  go_wp2_with fail
  simp only [ha]
  refine (hasLiteral_any t l a w (by omega) (by omega) (by omega)).mono ?_
  rintro e w' ⟨rfl, n, rfl⟩
  rw [HF.out]
  go_wp2_with fail
  go_ret
  exact ⟨ret_bool (by simp), grown_drewN _ _⟩
end Go.Proofs.Ybulkses
