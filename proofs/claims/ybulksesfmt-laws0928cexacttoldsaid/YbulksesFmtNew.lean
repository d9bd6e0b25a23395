/- zzs0928cread, checkName, checkPlausibleClock, NewPlausibleClockAt. -/
import Derived.Test.YbulksesFmtModel
namespace Go.Proofs.YbulksesFmt
open Go.RowKit

/-- Kept from the walk, as it stands. -/
theorem hideIt {p : Prop} (h : p) : Hid p := h

theorem CL.boxed (w : World) (v : Value) (at_ : Nat) (p : Int) (t : TypeId) : CL (w.alloc (.cells #[v, .pointer none, .int .i64 at_, .int .u64 p] t)) w.heap.size 0 v at_ p :=
  ⟨by simp [go_sem], by simp [go_sem], by simp [go_sem], by simp [go_sem]⟩

set_option maxHeartbeats 1000000 in
theorem read_pos (g n cap at_ : Nat) (p : Int) (hs : List Int) (w : World) (hn0 : 0 < n) (hn : n ≤ 2000) (ha : at_ ≤ n) (hown : w.ownsRow 0 31 1 (.slice (some ⟨g, 0, none⟩) n cap) n (hs.map (.int .u64))) :
    Calls Ybaf.prog 11 #[.agg #[.slice (some ⟨g, 0, none⟩) n cap, .pointer none, .int .i64 at_, .int .u64 p]] w
      fun e w' => e = .returned (.slice (some ⟨w.heap.size + 1, 0, none⟩) n n) ∧ w'.ownsRow (w.heap.size + 1) 31 1 (.slice (some ⟨w.heap.size + 1, 0, none⟩) n n) n ((rd hs at_ p).map (.int .u64)) ∧ Below w.heap.size w w' := by
  have hcl := clone_any w.heap.size 0 g n cap at_ p hs _ (CL.boxed w (.slice (some ⟨g, 0, none⟩) n cap) at_ p 35) hn0 hn ha (hown.alloc _)
  simp only [World.size_alloc] at hcl
  have HC := hideIt hcl
  clear hcl
  go_enter Ybaf.func11, Ybaf.ntmps11
  go_wp2_with (go_at_call 24; go_must (refine HC.out.mono ?_; rintro e w1 ⟨rfl, hx, hb⟩))
  go_ret
  exact ⟨rfl, hx, ((Below.refl _ _).alloc (Nat.le_refl _) _).trans (hb.mono (by omega))⟩

set_option maxHeartbeats 1000000 in
theorem read_zero (w : World) :
    Calls Ybaf.prog 11 #[.agg #[.slice none 0 0, .pointer none, .int .i64 0, .int .u64 0]] w
      fun e w' => ∃ a, e = .returned (.slice a 0 0) ∧ Below w.heap.size w w' := by
  have hcl := clone_zero w.heap.size 0 _ (CL.boxed w (.slice none 0 0) 0 0 35)
  simp only [World.size_alloc, Int.ofNat_zero] at hcl
  have HC := hideIt hcl
  clear hcl
  go_enter Ybaf.func11, Ybaf.ntmps11
  go_wp2_with (go_at_call 24; go_must (refine HC.out.mono ?_; rintro e w1 ⟨rfl, hb⟩))
  go_ret
  exact ⟨_, rfl, ((Below.refl _ _).alloc (Nat.le_refl _) _).trans (hb.mono (by simp))⟩

theorem checkName_ok (nm : ByteArray) (w : World) (hnm : nm.toList.isEmpty = false) :
    Calls Ybaf.prog 19 #[.string nm] w fun e w' => e = .returned .nilIface ∧ w' = w := by
  go_enter Ybaf.func19, Ybaf.ntmps19
  go_wp2
  go_ret
  exact ⟨rfl, rfl⟩

theorem check_ok (nm : ByteArray) (num n : Nat) (w : World) (hnm : nm.toList.isEmpty = false) (h1 : 1 ≤ n) (h2 : n ≤ 2000) :
    Calls Ybaf.prog 15 #[.string nm, .int .i64 num, .int .i64 n] w fun e w' => e = .returned .nilIface ∧ w' = w := by
  go_enter Ybaf.func15, Ybaf.ntmps15
  go_wp2_with (go_at_call 19; refine (checkName_ok _ _ hnm).mono ?_; rintro e w' ⟨rfl, rfl⟩)
  go_ret
  exact ⟨rfl, rfl⟩

set_option maxHeartbeats 1000000 in
theorem new_any (nm : ByteArray) (num n cap : Nat) (ao : Option Addr) (w : World) (hnm : nm.toList.isEmpty = false) (h1 : 1 ≤ n) (h2 : n ≤ 2000) (hu : num ≤ 65535) :
    Calls Ybaf.prog 6 #[.string nm, .int .i64 num, .int .i64 n, .agg #[.slice ao n cap, .pointer none, .int .i64 0, .int .u64 0]] w
      fun e w' => e = .returned (.tuple #[.pointer (some ⟨w.heap.size + 1, 0, none⟩), .nilIface]) ∧ ∃ o, w' = ((w.alloc o).alloc (.cells #[.string nm, .int .i64 ((num % n : Nat) : Int), .int .i32 0, .int .u32 0, .slice ao n cap, .pointer none, .int .i64 0, .int .u64 0] 62)).drew := by
  have hC := CL.boxed w (.slice ao n cap) 0 0 35
  have HC := hideIt hC
  clear hC
  have hx : ((n : Int) != (n : Int)) = false := by simp
  have HM := hideIt (show (num : Int) % (n : Int) = ((num % n : Nat) : Int) by simp)
  go_enter Ybaf.func6, Ybaf.ntmps6
  go_wp2_with (first | (go_at_call 15; refine (check_ok _ _ _ _ hnm h1 h2).mono ?_; rintro e w' ⟨rfl, rfl⟩) | (go_at_call 16; go_must (refine (len_any w.heap.size 0 ao n cap 0 0 _ HC.out).mono ?_; rintro e w' ⟨rfl, rfl⟩)))
  go_region
  all_goals (try go_wp2)
  all_goals go_ret2
  all_goals exact ⟨rfl, _, by rw [← HM.out]⟩
end Go.Proofs.YbulksesFmt
