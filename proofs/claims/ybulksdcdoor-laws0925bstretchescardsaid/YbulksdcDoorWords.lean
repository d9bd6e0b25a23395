/- The plain law on the words of the set 'changing', and the deltas as they are laid. -/
import Derived.Test.YbulksdcDoorPlain
namespace Go.Proofs.YbulksdcDoor

/-- The deltas laid so far: the first y, the rest still 0. -/
def dl (zs : List Int) (h y : Nat) : List Int := zs.take y ++ List.replicate (h - y) 0

/-- The words of the set so far. -/
def wsAt (zs : List Int) (n : Nat) : Nat → List Nat
  | 0 => List.replicate n 0
  | y + 1 => if zs.getD y 0 ≠ 0 then (wsAt zs n y).set (y / 64) ((wsAt zs n y).getD (y / 64) 0 ||| 2 ^ (y % 64)) else wsAt zs n y

theorem dl_len (zs : List Int) (h y : Nat) (hz : zs.length = h) (hy : y ≤ h) : (dl zs h y).length = h := by simp [dl]; omega
theorem dl_zero (zs : List Int) (h : Nat) : dl zs h 0 = List.replicate h 0 := by simp [dl]
theorem dl_full (zs : List Int) (h : Nat) (hz : zs.length = h) : dl zs h h = zs := by simp [dl, ← hz]
theorem dl_succ (zs : List Int) (h y : Nat) (hz : zs.length = h) (hy : y < h) : (dl zs h y).set y (zs.getD y 0) = dl zs h (y + 1) := by
  unfold dl
  rw [List.set_append_right _ _ (by simp; omega)]
  obtain ⟨m, hm⟩ : ∃ m, h - y = m + 1 := ⟨h - y - 1, by omega⟩
  have e : y - (zs.take y).length = 0 := by simp; omega
  have hy' : y < zs.length := by omega
  rw [hm, e, List.replicate_succ, List.set_cons_zero, List.take_succ_eq_append_getElem hy', show h - (y + 1) = m by omega, List.getD_eq_getElem?_getD, List.getElem?_eq_getElem hy']
  rw [List.append_assoc]; rfl

theorem wsAt_len (zs : List Int) (n y : Nat) : (wsAt zs n y).length = n := by
  induction y with
  | zero => simp [wsAt]
  | succ y ih =>
    rw [wsAt]
    split
    · simpa using ih
    · exact ih

theorem getD_set_eq (l : List Nat) (i j v : Nat) (hi : i < l.length) : (l.set i v).getD j 0 = if i = j then v else l.getD j 0 := by
  rw [List.getD_eq_getElem?_getD, List.getElem?_set, List.getD_eq_getElem?_getD]
  split
  · rename_i h; subst h; first | rfl | (rw [if_pos hi]; rfl)
  · rfl

theorem wsAt_lt (zs : List Int) (n y : Nat) (hn : y ≤ 64 * n) : ∀ j, (wsAt zs n y).getD j 0 < 2 ^ 64 := by
  induction y with
  | zero =>
    intro j
    rw [wsAt, List.getD_eq_getElem?_getD, List.getElem?_replicate]
    split <;> simp
  | succ y ih =>
    intro j
    rw [wsAt]
    split
    · rw [getD_set_eq _ _ _ _ (by rw [wsAt_len]; omega)]
      split
      · exact Nat.or_lt_two_pow (ih (by omega) _) (Nat.pow_lt_pow_right (by decide) (Nat.mod_lt _ (by decide)))
      · exact ih (by omega) j
    · exact ih (by omega) j

theorem wsAt_bit (zs : List Int) (n y : Nat) (hn : y ≤ 64 * n) : ∀ r, bitOf (wsAt zs n y) r = (decide (r < y) && decide (zs.getD r 0 ≠ 0)) := by
  induction y with
  | zero =>
    intro r
    unfold bitOf
    rw [wsAt, List.getD_eq_getElem?_getD, List.getElem?_replicate]
    split <;> simp
  | succ y ih =>
    intro r
    have ih' := ih (by omega) r
    unfold bitOf at ih' ⊢
    rw [wsAt]
    by_cases hz : zs.getD y 0 ≠ 0
    · rw [if_pos hz, getD_set_eq _ _ _ _ (by rw [wsAt_len]; omega)]
      by_cases hj : y / 64 = r / 64
      · rw [if_pos hj, Nat.testBit_or, hj, ih', Nat.testBit_two_pow]
        by_cases hr : r = y
        · subst hr; simp at hz ⊢; simp [hz]
        · have h1 : ¬ (y % 64 = r % 64) := by omega
          have h2 : (decide (r < y + 1)) = decide (r < y) := by rw [decide_eq_decide]; omega
          rw [h2]; simp [h1]
      · rw [if_neg hj, ih']
        have h2 : (decide (r < y + 1)) = decide (r < y) := by rw [decide_eq_decide]; omega
        rw [h2]
    · rw [if_neg hz, ih']
      by_cases hr : r = y
      · subst hr; simp at hz ⊢; simp [hz]
      · have h2 : (decide (r < y + 1)) = decide (r < y) := by rw [decide_eq_decide]; omega
        rw [h2]
end Go.Proofs.YbulksdcDoor
