import Derived.Test.YbulksesHas
namespace Go.Proofs.Ybulkses
open Go.RowKit

theorem grown_drewN (w : World) (n : Nat) : Grown w (w.drewN n) := by
  induction n with
  | zero => exact Grown.refl _
  | succ n ih => exact ih.drew

/-- What 'want' says at a round's head. -/
def wants (t l : ByteArray) (a k : Nat) (b : Bool) : Prop := (b = true → a + l.size ≤ t.size ∧ agree t l a k) ∧ (b = false → hasL t.data.toList a l.data.toList = false)

set_option maxHeartbeats 2000000 in
theorem manual_any (t l : ByteArray) (a : Nat) (w : World) (ht : t.size ≤ 1024) (hl : l.size ≤ 1024) (ha : a ≤ 2048) :
    Calls Yba.prog 5 #[.string t, .int .i64 a, .string l] w fun e w' => e = .returned (.bool true) ∧ Grown w w' := by
  go_enter Yba.func5, Yba.ntmps5
  go_wp2_with fail
  go_loopw [7, 8] (fun v i wr => ∃ (k : Nat) (b : Bool), v = .bool b ∧ i = .int .i64 k ∧ k ≤ l.size ∧ Hid (wants t l a k b) ∧ ∃ n, wr = w.drewN n) (fun _ i _ => l.size - (intOf i).toNat)
  case atStart =>
    refine ⟨0, _, rfl, rfl, by omega, ⟨fun h => ⟨?_, fun j hj => by omega⟩, fun h => ?_⟩, 0, rfl⟩
    · simp at h; omega
    · exact hasL_short t l a (by simp at h; omega)
  case round =>
    obtain ⟨k, b, rfl, rfl, hk, HW, n, rfl⟩ := hrel
    cases b
    · have HF : Hid _ := HW.out.2 rfl
      go_wp2_with (go_at_call 6; refine (hasLiteral_any _ _ _ _ (by omega) (by omega) (by omega)).mono ?_; rintro e w' ⟨rfl, n, rfl⟩; rw [HF.out])
      go_ret
      exact ⟨rfl, grown_drewN _ _⟩
    · obtain ⟨h, HA⟩ := HW.out.1 rfl
      replace HA : Hid _ := HA
      by_cases hlt : k < l.size
      · have hak : a + k < t.size := by omega
        have hwr : IntKind.i64.wrap ((a : Int) + (k : Int)) = (a : Int) + (k : Int) := by rw [IntKind.wrap_i64]; omega
        have hix := index_at t (a + k) hak
        have hiy := index_at l k hlt
        rw [show ((a + k : Nat) : Int) = (a : Int) + (k : Int) by omega] at hix
        by_cases he : t[a + k] = l[k]
        · have he' : (((t[a + k].toNat : Int)) != (l[k].toNat : Int)) = false := by rw [he]; simp
          have HE : Hid _ := he
          clear he
          go_wp2_with fail
          go_quiet (fail)
          go_wp2_with fail
          go_roundw
          case rel => exact ⟨k + 1, true, rfl, by go_num, by omega, ⟨fun _ => ⟨h, agree_succ t l a k hlt hak HE.out HA⟩, fun h => by cases h⟩, _, rfl⟩
          case measure => simp [intOf]; omega
        · have he' : (((t[a + k].toNat : Int)) != (l[k].toNat : Int)) = true := by
            simp only [bne_iff_ne, ne_eq]
            intro e
            exact he (UInt8.toNat_inj.1 (by omega))
          have HE : Hid _ := he
          clear he
          go_wp2_with fail
          go_quiet (fail)
          go_wp2_with fail
          go_roundw
          case rel => exact ⟨k + 1, false, rfl, by go_num, by omega, ⟨fun h => (by cases h), fun _ => hasL_bad t l a k hlt hak HE.out⟩, _, rfl⟩
          case measure => simp [intOf]; omega
      · have hkl : k = l.size := by omega
        subst hkl
        have HG : Hid _ := hasL_good t l a h HA
        go_wp2_with (go_at_call 6; refine (hasLiteral_any _ _ _ _ (by omega) (by omega) (by omega)).mono ?_; rintro e w' ⟨rfl, n, rfl⟩; rw [HG.out])
        go_ret
        exact ⟨rfl, grown_drewN _ _⟩
end Go.Proofs.Ybulkses
