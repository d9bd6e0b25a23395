import Derived.Test.YbulksdcDoorTz
import Derived.Test.YbulksdcDoorPlain
namespace Go.Proofs.YbulksdcDoor
open Go.RowKit

theorem tz_int (v : Int) (x : Nat) (hv : v = x) (hx : x < 18446744073709551616) (w : World) (hT : TabAt 0 Lib.deBruijn64tab w) :
    Calls Ybad.prog 9 #[.int .u64 v] w fun e w' => e = .returned (.int .i64 (Lib.ctz 64 x)) ∧ w' = w := by
  subst hv
  exact tz_any x hx w hT

theorem ret_int {k : IntKind} {a b : Int} (h : a = b) : Ending.returned (.int k a) = .returned (.int k b) := by rw [h]

theorem ctz_le (x : Nat) (hx : x < 18446744073709551616) : Lib.ctz 64 x ≤ 64 := by
  by_cases h : x = 0
  · subst h; decide
  · have := (ctz_bits x h hx).2.2; omega

set_option maxHeartbeats 1000000 in
theorem next_any (b : Nat) (ws : List Nat) (y to : Nat) (w : World) (hT : TabAt 0 Lib.deBruijn64tab w) (hw : ∀ x ∈ ws, x < 18446744073709551616)
    (hc : ∀ i, i < ws.length → w.cell? ⟨b, i, none⟩ = some (.int .u64 (ws.getD i 0))) (hlen : ws.length ≤ 100) (hto : to ≤ 64 * ws.length) (hy : y ≤ 6400) :
    Calls Ybad.prog 8 #[.slice (some ⟨b, 0, none⟩) ws.length ws.length, .int .i64 y, .int .i64 to] w fun e w' => e = .returned (.int .i64 (nxt (bitOf ws) y to)) ∧ w' = w := by
  have hwd : ∀ j, ws.getD j 0 < 18446744073709551616 := by
    intro j
    by_cases h : j < ws.length
    · exact hw _ (by rw [List.getD_eq_getElem?_getD, List.getElem?_eq_getElem h]; exact List.getElem_mem h)
    · rw [List.getD_eq_getElem?_getD, List.getElem?_eq_none (by omega)]; simp
  by_cases hlt : y < to
  · have hcell := hc (y / 64) (by omega)
    have hWb := hwd (y / 64)
    obtain ⟨W, hW⟩ : ∃ W, W = ws.getD (y / 64) 0 := ⟨_, rfl⟩
    rw [← hW] at hcell hWb
    have hdiv : ((W : Int) / 2 ^ (y % 64)) = ((W / 2 ^ (y % 64) : Nat) : Int) := by simp
    have hle : W / 2 ^ (y % 64) < 18446744073709551616 := Nat.lt_of_le_of_lt (Nat.div_le_self _ _) hWb
    have hct := ctz_le _ hle
    by_cases hz : W / 2 ^ (y % 64) = 0
    · have ht : (((W : Int) / 2 ^ (y % 64)) != 0) = false := by rw [hdiv, hz]; rfl
      have H0 : Hid (∀ r, y ≤ r → r < 64 * (y / 64 + 1) → bitOf ws r = false) := bits_zero ws y (by rw [← hW]; exact hz)
      have HW : Hid (W = ws.getD (y / 64) 0) := hW
      clear hW hdiv hle hct hz
      go_enter Ybad.func8, Ybad.ntmps8
      go_wp2_with fail
      go_loop [8] (fun t => ∃ k : Nat, t = .int .u64 k ∧ y / 64 < k ∧ k ≤ ws.length ∧ Hid (∀ r, y ≤ r → r < 64 * k → bitOf ws r = false)) (fun t => ws.length - (intOf t).toNat)
      case atStart => exact ⟨y / 64 + 1, by go_num, by omega, by omega, H0⟩
      case round =>
        obtain ⟨k, rfl, hk1, hk2, HB⟩ := hrel
        by_cases hkt : 64 * k < to
        · have hck := hc k (by omega)
          have hVb := hwd k
          obtain ⟨V, hV⟩ : ∃ V, V = ws.getD k 0 := ⟨_, rfl⟩
          rw [← hV] at hck hVb
          have HV : Hid (V = ws.getD k 0) := hV
          clear hV
          by_cases hv : V = 0
          · subst hv
            go_wp2_with fail
            go_round
            case rel => 
              refine ⟨k + 1, by go_num, by omega, by omega, ?_⟩
              intro r h1 h2
              by_cases hr : r < 64 * k
              · exact HB.out r h1 hr
              · exact bits_zero ws (64 * k) (by rw [show 64 * k / 64 = k by omega, ← HV.out]; simp) r (by omega) (by omega)
            case measure => simp [intOf]; omega
          · have hvt : ((V : Int) != 0) = true := by simp; omega
            have hct := ctz_le _ hVb
            go_wp2_with (go_at_call 9; refine (tz_int _ V rfl hVb _ hT).mono ?_; rintro e w' ⟨rfl, rfl⟩)
            all_goals
              go_ret
              refine ⟨ret_int ?_, rfl⟩
              rw [nxt_hit ws hw y (64 * k) to (by omega) hkt HB.out (by rw [show 64 * k / 64 = k by omega, ← HV.out]; simpa using hv)]
              rw [show 64 * k / 64 = k by omega, ← HV.out, show 64 * k % 64 = 0 by omega, Nat.pow_zero, Nat.div_one]
              omega
        · go_wp2_with fail
          go_ret
          exact ⟨ret_int (by rw [nxt_none _ y to (64 * k) hlt (by omega) HB.out]), rfl⟩
    · have ht : (((W : Int) / 2 ^ (y % 64)) != 0) = true := by rw [hdiv]; simp only [bne_iff_ne, ne_eq]; omega
      have HD : Hid _ := hdiv
      have HW : Hid (W = ws.getD (y / 64) 0) := hW
      clear hW hdiv
      go_enter Ybad.func8, Ybad.ntmps8
      go_wp2_with (go_at_call 9; refine (tz_int _ (W / 2 ^ (y % 64)) HD.out hle _ hT).mono ?_; rintro e w' ⟨rfl, rfl⟩)
      all_goals
        go_ret
        refine ⟨ret_int ?_, rfl⟩
        rw [nxt_hit ws hw y y to (by omega) hlt (fun r h1 h2 => by omega) (by rw [← HW.out]; exact hz), ← HW.out]
        omega
  · go_enter Ybad.func8, Ybad.ntmps8
    go_wp2
    go_ret
    exact ⟨ret_int (by rw [nxt_ge _ y to hlt]), rfl⟩
end Go.Proofs.YbulksdcDoor
