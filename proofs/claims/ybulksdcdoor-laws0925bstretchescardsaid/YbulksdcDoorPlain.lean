/- The plain law: first set row, stretches. No Go in sight. -/
import Derived.Lib.TrailingZeros
namespace Go.Proofs.YbulksdcDoor
open Go

/-- The first r from y on, below 'to', with f r; 'to' if none is; y if y is not below 'to'. -/
def nxtF (f : Nat → Bool) : Nat → Nat → Nat
  | 0, y => y
  | n + 1, y => if f y then y else nxtF f n (y + 1)
def nxt (f : Nat → Bool) (y to : Nat) : Nat := nxtF f (to - y) y

theorem nxt_step (f : Nat → Bool) (y to : Nat) : nxt f y to = if y < to then (if f y then y else nxt f (y + 1) to) else y := by
  unfold nxt
  by_cases h : y < to
  · rw [if_pos h]
    obtain ⟨n, hn⟩ : ∃ n, to - y = n + 1 := ⟨to - y - 1, by omega⟩
    rw [hn, show to - (y + 1) = n by omega, nxtF]
  · rw [if_neg h, show to - y = 0 by omega, nxtF]

/-- Row r's bit. -/
def bitOf (ws : List Nat) (r : Nat) : Bool := (ws.getD (r / 64) 0).testBit (r % 64)

theorem nxt_eq (f : Nat → Bool) (m to : Nat) : ∀ n y, m = y + n → m ≤ to → (∀ r, y ≤ r → r < m → f r = false) → (m < to → f m = true) → nxt f y to = m := by
  intro n
  induction n with
  | zero =>
    intro y e hm _ ht
    have : m = y := by omega
    subst this
    rw [nxt_step]
    split
    · rename_i h; rw [ht h]; rfl
    · rfl
  | succ n ih =>
    intro y e hm hf ht
    rw [nxt_step]
    rw [if_pos (by omega), hf y (by omega) (by omega)]
    exact ih (y + 1) (by omega) hm (fun r h1 h2 => hf r (by omega) h2) ht

theorem nxt_ge (f : Nat → Bool) (y to : Nat) (h : ¬ y < to) : nxt f y to = y := by rw [nxt_step, if_neg h]

/-- What 'nxt' is, read off. -/
theorem nxt_spec (f : Nat → Bool) (to : Nat) : ∀ n y, to = y + n → y ≤ nxt f y to ∧ nxt f y to ≤ to ∧ (∀ r, y ≤ r → r < nxt f y to → f r = false) ∧ (nxt f y to < to → f (nxt f y to) = true) := by
  intro n
  induction n with
  | zero =>
    intro y e
    rw [nxt_ge f y to (by omega)]
    exact ⟨by omega, by omega, fun r h1 h2 => by omega, fun h => by omega⟩
  | succ n ih =>
    intro y e
    rw [nxt_step]
    rw [if_pos (by omega)]
    by_cases hf : f y = true
    · simp only [hf, if_true]
      exact ⟨by omega, by omega, fun r h1 h2 => by omega, fun _ => trivial⟩
    · have hf' : f y = false := by simpa using hf
      simp only [hf', Bool.false_eq_true, if_false]
      obtain ⟨a, b, c, d⟩ := ih (y + 1) (by omega)
      refine ⟨by omega, b, fun r h1 h2 => ?_, d⟩
      by_cases e : r = y
      · subst e; exact hf'
      · exact c r (by omega) h2

/-- The sum of the first n deltas. -/
def pre (ds : List Int) (n : Nat) : Int := (ds.take n).sum

theorem pre_succ (ds : List Int) (n : Nat) (h : n < ds.length) : pre ds (n + 1) = pre ds n + ds.getD n 0 := by
  unfold pre
  rw [List.take_succ_eq_append_getElem h, List.sum_append, List.getD_eq_getElem?_getD, List.getElem?_eq_getElem h]
  simp

/-- Where the deltas are 0 the sum stands. -/
theorem pre_flat (ds : List Int) (a : Nat) : ∀ n, a + n ≤ ds.length → (∀ r, a ≤ r → r < a + n → ds.getD r 0 = 0) → pre ds (a + n) = pre ds a := by
  intro n
  induction n with
  | zero => intro _ _; rfl
  | succ n ih =>
    intro hl hz
    rw [← Nat.add_assoc, pre_succ ds _ (by omega), ih (by omega) (fun r h1 h2 => hz r h1 (by omega)), hz (a + n) (by omega) (by omega), Int.add_zero]

theorem pre_bd (ds : List Int) (hd : ∀ i, -128 ≤ ds.getD i 0 ∧ ds.getD i 0 ≤ 127) : ∀ n, n ≤ ds.length → -128 * (n : Int) ≤ pre ds n ∧ pre ds n ≤ 127 * (n : Int) := by
  intro n
  induction n with
  | zero => intro _; simp [pre]
  | succ n ih =>
    intro hl
    have := ih (by omega)
    have := hd n
    rw [pre_succ ds n (by omega)]
    omega

theorem ctz_bits (x : Nat) (h0 : x ≠ 0) (h : x < 2 ^ 64) : x.testBit (Lib.ctz 64 x) = true ∧ (∀ j, j < Lib.ctz 64 x → x.testBit j = false) ∧ Lib.ctz 64 x < 64 := by
  have e : Lib.ctz 64 x = Lib.ctzFrom 64 x := by unfold Lib.ctz; rw [if_neg h0]
  rw [e]
  obtain ⟨m, hm, hk⟩ := Lib.ctzFrom_spec 64 x (by omega) h
  generalize Lib.ctzFrom 64 x = k at *
  refine ⟨?_, ?_, hk⟩
  · rw [hm, Nat.mul_comm, Nat.testBit_mul_two_pow]; simp
  · intro j hj
    rw [hm, Nat.mul_comm, Nat.testBit_mul_two_pow]; simp; omega

/-- The word from y's bit on is not 0: its lowest bit is the next row. -/
theorem nxt_hit (ws : List Nat) (hw : ∀ x ∈ ws, x < 18446744073709551616) (y0 y to : Nat) (hy0 : y0 ≤ y) (hlt : y < to) (hb : ∀ r, y0 ≤ r → r < y → bitOf ws r = false) (hz : ws.getD (y / 64) 0 / 2 ^ (y % 64) ≠ 0) :
    nxt (bitOf ws) y0 to = min (y + Lib.ctz 64 (ws.getD (y / 64) 0 / 2 ^ (y % 64))) to := by
  have hx : ws.getD (y / 64) 0 < 2 ^ 64 := by
    by_cases h : y / 64 < ws.length
    · have := hw (ws.getD (y / 64) 0) (by rw [List.getD_eq_getElem?_getD, List.getElem?_eq_getElem h]; exact List.getElem_mem h)
      omega
    · rw [List.getD_eq_getElem?_getD, List.getElem?_eq_none (by omega)]; simp
  generalize hW : ws.getD (y / 64) 0 = W at *
  have hx2 : W / 2 ^ (y % 64) < 2 ^ 64 := Nat.lt_of_le_of_lt (Nat.div_le_self _ _) hx
  obtain ⟨h1, h2, h3⟩ := ctz_bits _ hz hx2
  generalize Lib.ctz 64 (W / 2 ^ (y % 64)) = k at *
  rw [Nat.testBit_div_two_pow] at h1
  have hk : y % 64 + k < 64 := by
    apply Nat.lt_of_not_le
    intro hge
    rw [Nat.testBit_lt_two_pow (i := k + y % 64) (Nat.lt_of_lt_of_le hx (Nat.pow_le_pow_right (by decide) (by omega)))] at h1
    cases h1
  have hbit : ∀ j, j ≤ k → bitOf ws (y + j) = W.testBit (j + y % 64) := by
    intro j hj
    unfold bitOf
    have e1 : (y + j) / 64 = y / 64 := by omega
    have e2 : (y + j) % 64 = j + y % 64 := by omega
    rw [e1, e2, hW]
  have hfalse : ∀ r, y0 ≤ r → r < y + k → bitOf ws r = false := by
    intro r a c
    by_cases hr : r < y
    · exact hb r a hr
    · have e : r = y + (r - y) := by omega
      rw [e, hbit _ (by omega)]
      have := h2 (r - y) (by omega)
      rwa [Nat.testBit_div_two_pow] at this
  by_cases hkt : y + k ≤ to
  · rw [Nat.min_eq_left hkt]
    exact nxt_eq _ (y + k) to (y + k - y0) y0 (by omega) hkt hfalse (fun _ => by rw [hbit k (Nat.le_refl _)]; exact h1)
  · rw [Nat.min_eq_right (by omega)]
    exact nxt_eq _ to to (to - y0) y0 (by omega) (Nat.le_refl _) (fun r a c => hfalse r a (by omega)) (fun h => by omega)

/-- The word from y's bit on is 0: no row of it from y on. -/
theorem bits_zero (ws : List Nat) (y : Nat) (hz : ws.getD (y / 64) 0 / 2 ^ (y % 64) = 0) : ∀ r, y ≤ r → r < 64 * (y / 64 + 1) → bitOf ws r = false := by
  intro r a c
  unfold bitOf
  have e1 : r / 64 = y / 64 := by omega
  rw [e1]
  have := Nat.testBit_div_two_pow (n := y % 64) (i := r % 64 - y % 64) (ws.getD (y / 64) 0)
  rw [hz] at this
  have e2 : r % 64 - y % 64 + y % 64 = r % 64 := by omega
  rw [e2] at this
  rw [← this]; simp

theorem nxt_none (f : Nat → Bool) (y to z : Nat) (hlt : y < to) (hz : to ≤ z) (hb : ∀ r, y ≤ r → r < z → f r = false) : nxt f y to = to :=
  nxt_eq _ to to (to - y) y (by omega) (Nat.le_refl _) (fun r a c => hb r a (by omega)) (fun h => by omega)
end Go.Proofs.YbulksdcDoor
