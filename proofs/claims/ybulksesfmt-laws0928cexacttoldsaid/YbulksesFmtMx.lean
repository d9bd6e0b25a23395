/- The plain law: the entry-wise maximum, the bump. No Go in sight. -/
namespace Go.Proofs.YbulksesFmt

/-- The first j entries taken over by their maxima. -/
def mxU (M A : List Int) : Nat → List Int
  | 0 => M
  | j + 1 => (mxU M A j).set j (max (M.getD j 0) (A.getD j 0))

theorem mxU_len (M A : List Int) (j : Nat) : (mxU M A j).length = M.length := by
  induction j with
  | zero => rfl
  | succ j ih => simp [mxU, ih]

theorem getD_set (l : List Int) (i j : Nat) (v : Int) (hi : i < l.length) : (l.set i v).getD j 0 = if i = j then v else l.getD j 0 := by
  rw [List.getD_eq_getElem?_getD, List.getElem?_set, List.getD_eq_getElem?_getD]
  split
  · rename_i h; subst h; first | rfl | (rw [if_pos hi]; rfl)
  · rfl

theorem mxU_get (M A : List Int) (j : Nat) (hj : j ≤ M.length) : ∀ i, (mxU M A j).getD i 0 = if i < j then max (M.getD i 0) (A.getD i 0) else M.getD i 0 := by
  induction j with
  | zero => intro i; simp [mxU]
  | succ j ih =>
    intro i
    rw [mxU, getD_set _ _ _ _ (by rw [mxU_len]; omega), ih (by omega) i]
    by_cases h : j = i
    · subst h; rw [if_pos rfl, if_pos (by omega)]
    · rw [if_neg h]
      by_cases h2 : i < j
      · rw [if_pos h2, if_pos (by omega)]
      · rw [if_neg h2, if_neg (by omega)]

theorem set_self (l : List Int) (i : Nat) (hi : i < l.length) : l.set i (l.getD i 0) = l := by
  rw [List.getD_eq_getElem?_getD, List.getElem?_eq_getElem hi]
  exact List.set_getElem_self hi

/-- No store where the entry is not raised. -/
theorem mxU_skip (M A : List Int) (j : Nat) (hj : j < M.length) (h : ¬ M.getD j 0 < A.getD j 0) : mxU M A (j + 1) = mxU M A j := by
  rw [mxU, show max (M.getD j 0) (A.getD j 0) = (mxU M A j).getD j 0 by rw [mxU_get M A j (by omega), if_neg (by omega)]; omega, set_self _ _ (by rw [mxU_len]; exact hj)]

theorem mxU_store (M A : List Int) (j : Nat) (h : M.getD j 0 < A.getD j 0) : mxU M A (j + 1) = (mxU M A j).set j (A.getD j 0) := by
  rw [mxU, show max (M.getD j 0) (A.getD j 0) = A.getD j 0 by omega]

/-- All counts of uint64. -/
def U64 (l : List Int) : Prop := ∀ i, 0 ≤ l.getD i 0 ∧ l.getD i 0 ≤ 18446744073709551615

theorem mxU_u64 {M A : List Int} (hM : U64 M) (hA : U64 A) (j : Nat) (hj : j ≤ M.length) : U64 (mxU M A j) := by
  intro i
  rw [mxU_get M A j hj]
  have := hM i
  have := hA i
  split <;> omega

/-- The receipt's outcome where it is not refused. -/
def bump (M A : List Int) (e : Nat) : List Int := (mxU M A A.length).set e ((mxU M A A.length).getD e 0 + 1)

theorem bump_len (M A : List Int) (e : Nat) : (bump M A e).length = M.length := by simp [bump, mxU_len]

theorem bump_u64 {M A : List Int} (hM : U64 M) (hA : U64 A) (e : Nat) (he : e < M.length) (hl : A.length ≤ M.length) (ho : (mxU M A A.length).getD e 0 ≠ 18446744073709551615) : U64 (bump M A e) := by
  intro i
  have h1 := mxU_u64 hM hA A.length hl i
  have h2 := mxU_u64 hM hA A.length hl e
  rw [bump, getD_set _ _ _ _ (by rw [mxU_len]; exact he)]
  split <;> omega
end Go.Proofs.YbulksesFmt
