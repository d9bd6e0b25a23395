/- The plain law on stretches. No Go in sight. -/
import Derived.Test.YbulksdcDoorPlain
namespace Go.Proofs.YbulksdcDoor

/-- Shut the open stretch (its top and free), if there is one, above row y. -/
def shutAt (s : List (Int × Int × Int) × Option (Int × Int)) (y : Nat) : List (Int × Int × Int) :=
  match s.2 with
  | none => s.1
  | some (t, f) => s.1 ++ [(t, (y : Int) - 1, f)]

/-- The rows below y: the stretches that are shut, and the open one. -/
def st (ds : List Int) (W : Int) : Nat → List (Int × Int × Int) × Option (Int × Int)
  | 0 => ([], none)
  | y + 1 => if y = 0 ∨ ds.getD y 0 ≠ 0 then (shutAt (st ds W y) y, some ((y : Int), W - pre ds (y + 1))) else st ds W y

/-- All stretches of the rows below y. -/
def res (ds : List Int) (W : Int) (y : Nat) : List (Int × Int × Int) := shutAt (st ds W y) y

/-- As 'want' holds them: the open one's bottom is its top. -/
def wl (ds : List Int) (W : Int) (y : Nat) : List (Int × Int × Int) :=
  match (st ds W y).2 with
  | none => (st ds W y).1
  | some (t, f) => (st ds W y).1 ++ [(t, t, f)]

theorem st_start (ds : List Int) (W : Int) (y : Nat) (h : y = 0 ∨ ds.getD y 0 ≠ 0) : st ds W (y + 1) = (res ds W y, some ((y : Int), W - pre ds (y + 1))) := by
  rw [st, if_pos h]; rfl

theorem st_flat (ds : List Int) (W : Int) (y : Nat) : ∀ n, (∀ r, y < r → r < y + 1 + n → ds.getD r 0 = 0) → st ds W (y + 1 + n) = st ds W (y + 1) := by
  intro n
  induction n with
  | zero => intro _; rfl
  | succ n ih =>
    intro hz
    rw [← Nat.add_assoc, st, if_neg (by have := hz (y + 1 + n) (by omega) (by omega); omega)]
    exact ih (fun r h1 h2 => hz r h1 (by omega))

theorem res_next (ds : List Int) (W : Int) (y nx : Nat) (hs : y = 0 ∨ ds.getD y 0 ≠ 0) (hlt : y < nx) (hz : ∀ r, y < r → r < nx → ds.getD r 0 = 0) :
    res ds W nx = res ds W y ++ [((y : Int), (nx : Int) - 1, W - pre ds (y + 1))] := by
  have e : nx = y + 1 + (nx - (y + 1)) := by omega
  have h1 : st ds W nx = st ds W (y + 1) := by
    rw [e]; exact st_flat ds W y _ (fun r h1 h2 => hz r h1 (by omega))
  rw [st_start ds W y hs] at h1
  unfold res shutAt
  rw [h1]
  rfl

theorem st_some (ds : List Int) (W : Int) : ∀ y, 0 < y → ∃ t f, (st ds W y).2 = some (t, f) := by
  intro y
  induction y with
  | zero => intro h; omega
  | succ y ih =>
    intro _
    rw [st]
    by_cases h : y = 0 ∨ ds.getD y 0 ≠ 0
    · rw [if_pos h]; exact ⟨_, _, rfl⟩
    · rw [if_neg h]; exact ih (by omega)

theorem st_len (ds : List Int) (W : Int) : ∀ y, (st ds W y).1.length ≤ y - 1 ∧ (res ds W y).length ≤ y := by
  intro y
  induction y with
  | zero => simp [res, st, shutAt]
  | succ y ih =>
    have key : (st ds W (y + 1)).1.length ≤ y := by
      rw [st]
      by_cases h : y = 0 ∨ ds.getD y 0 ≠ 0
      · rw [if_pos h]; exact ih.2
      · rw [if_neg h]; omega
    refine ⟨by omega, ?_⟩
    unfold res shutAt
    split
    · omega
    · simp; omega

theorem wl_form (ds : List Int) (W : Int) (y : Nat) (hy : 0 < y) : ∃ L t f, wl ds W y = L ++ [(t, t, f)] ∧ res ds W y = L ++ [(t, (y : Int) - 1, f)] ∧ L.length ≤ y - 1 := by
  obtain ⟨t, f, e⟩ := st_some ds W y hy
  refine ⟨(st ds W y).1, t, f, ?_, ?_, (st_len ds W y).1⟩
  · unfold wl; rw [e]
  · unfold res shutAt; rw [e]

theorem wl_zero (ds : List Int) (W : Int) : wl ds W 0 = [] := rfl
theorem res_zero (ds : List Int) (W : Int) : res ds W 0 = [] := rfl

theorem wl_start (ds : List Int) (W : Int) (y : Nat) (h : y = 0 ∨ ds.getD y 0 ≠ 0) : wl ds W (y + 1) = res ds W y ++ [((y : Int), (y : Int), W - pre ds (y + 1))] := by
  unfold wl; rw [st_start ds W y h]
theorem wl_flat (ds : List Int) (W : Int) (y : Nat) (h : ¬ (y = 0 ∨ ds.getD y 0 ≠ 0)) : wl ds W (y + 1) = wl ds W y := by
  unfold wl; rw [st, if_neg h]
end Go.Proofs.YbulksdcDoor
