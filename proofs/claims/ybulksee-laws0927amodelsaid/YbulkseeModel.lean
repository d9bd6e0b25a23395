import Derived.Test.YbulkseeDigits
import Derived.Lib.ConvBytes
namespace Go.Proofs.Ybulksee
open Go.RowKit

theorem dg_wrap (c : UInt8) : ((c.toNat : Int) - 48) % 256 < 10 ↔ dg c = true := by
  rw [dg_iff]
  have h : c.toNat < 256 := c.toNat_lt
  omega

/-- Of the first k bytes so many are digits. -/
def cnt (s : ByteArray) (k : Nat) : Nat := (s.data.toList.take k).countP dg

theorem cnt_le (s : ByteArray) (k : Nat) : cnt s k ≤ k := by
  have h1 : cnt s k ≤ (s.data.toList.take k).length := List.countP_le_length
  have h2 := List.length_take_le k s.data.toList
  omega

theorem cnt_succ (s : ByteArray) (k : Nat) (h : k < s.size) : cnt s (k + 1) = cnt s k + if dg (s.data[k]'h) then 1 else 0 := by
  unfold cnt
  rw [take_snoc s k h, List.countP_append]
  rw [show s[k] = s.data[k]'h from rfl]
  simp [List.countP_cons]

theorem cnt_end (s : ByteArray) (h0 : s.size ≠ 0) : ((cnt s s.size : Int) == (s.size : Int)) = digs s.data.toList := by
  unfold cnt digs
  have hl : s.data.toList.length = s.size := by simp
  rw [List.take_of_length_le (by omega)]
  have he : s.data.toList.isEmpty = false := by
    rw [List.isEmpty_eq_false_iff]; intro h; rw [h] at hl; simp at hl; omega
  rw [he, Bool.not_false, Bool.true_and, Bool.eq_iff_iff, List.all_eq_true, beq_iff_eq, ← hl]
  rw [show ((s.data.toList.countP dg : Int) = (s.data.toList.length : Int)) ↔ s.data.toList.countP dg = s.data.toList.length by omega, List.countP_eq_length]

theorem bytes_below (w : World) (e : TypeId) (s : ByteArray) : Below w.heap.size w (Lib.bytesWorld w e s) :=
  ⟨rfl, rfl, rfl, by rw [Lib.bytesWorld_size]; omega, fun k hk => Lib.bytesWorld_at_old w e s k hk⟩

set_option maxHeartbeats 1000000 in
theorem model_any (s : ByteArray) (w : World) (hs : s.size ≤ 2000) :
    Calls Yba.prog 9 #[.string s] w fun e w' => e = .returned (.bool (digs s.data.toList)) ∧ Below w.heap.size w w' := by
  by_cases h0 : s.size = 0
  · have hd : digs s.data.toList = false := by
      have : s.data.toList = [] := List.eq_nil_of_length_eq_zero (by simpa using h0)
      rw [this]; rfl
    have h1 : ((s.size : Int) == 0) = true := by simp [h0]
    rw [hd]
    clear h0 hd
    go_enter Yba.func9, Yba.ntmps9
    go_wp2
    go_ret
    exact ⟨rfl, Below.refl _ _⟩
  · have h1 : ((s.size : Int) == 0) = false := by simpa using h0
    have hcv := Lib.run_convert_string_bytes (P := Yba.prog) w 9 24 5 s Yba.underlying9 Yba.underlying24 Yba.underlying5
    go_enter Yba.func9, Yba.ntmps9
    go_wp2_with fail
    go_loop [3, 12] (fun n t => ∃ k : Nat, t = .int .i64 k ∧ k ≤ s.size ∧ n = .int .i64 (cnt s k)) (fun _ t => s.size - (intOf t).toNat)
    case atStart => exact ⟨0, rfl, by omega, rfl⟩
    case round =>
      obtain ⟨k, rfl, hk, rfl⟩ := hrel
      by_cases hlt : k < s.size
      · have hcell := Lib.bytesWorld_cell w 5 s k hlt
        have hle := cnt_le s k
        have HS : Hid _ := cnt_succ s k hlt
        go_wp2_with fail
        · have hd : ((s.data[k].toNat : Int) - 48) % 256 < 10 := by assumption
          go_round
          case rel => exact ⟨k + 1, by go_num, by omega, by rw [HS.out, if_pos ((dg_wrap _).1 hd)]; go_num⟩
          case measure => simp [intOf]; omega
        · have hd : 10 ≤ ((s.data[k].toNat : Int) - 48) % 256 := by assumption
          go_round
          case rel => exact ⟨k + 1, by go_num, by omega, by rw [HS.out, if_neg (fun h => by have := (dg_wrap _).2 h; omega)]; go_num⟩
          case measure => simp [intOf]; omega
      · have hks : k = s.size := by omega
        subst hks
        have HE : Hid _ := cnt_end s h0
        go_wp2_with fail
        go_ret
        exact ⟨ret_bool HE.out, bytes_below w 5 s⟩
end Go.Proofs.Ybulksee
