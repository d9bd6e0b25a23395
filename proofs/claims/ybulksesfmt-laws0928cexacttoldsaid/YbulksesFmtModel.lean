/- zzs0928cmodel (function 10). -/
import Derived.Test.YbulksesFmtSmall
import Derived.Test.YbulksesFmtMx
namespace Go.Proofs.YbulksesFmt
open Go.RowKit

theorem RowAt.below {w w' : World} {ao : Option Addr} {n : Nat} {xs : List Int} (h : RowAt w ao n xs) (hb : Below w.heap.size w w') : RowAt w' ao n xs := by
  refine ⟨h.1, fun j hj => ?_⟩
  obtain ⟨b, off, e, hc⟩ := h.2 j hj
  exact ⟨b, off, e, (hb.cell (p := ⟨b, off + j, none⟩) (World.block_lt_of_cell? _ _ hc)).trans hc⟩

theorem model_long (mo ao : Option Addr) (n k cm ca e : Nat) (w : World) (h : n < k) :
    Calls Ybaf.prog 10 #[.slice mo n cm, .slice ao k ca, .int .i64 e] w fun e w' => e = .returned (.tuple #[.slice mo n cm, .bool true, .bool false]) ∧ w' = w := by
  go_enter Ybaf.func10, Ybaf.ntmps10
  go_wp2
  go_ret3
  exact ⟨rfl, rfl⟩

theorem own_get {w : World} {base g n cap : Nat} {xs : List Int} (h : w.ownsRow base 31 1 (.slice (some ⟨g, 0, none⟩) n cap) n (xs.map (.int .u64))) (j : Nat) (hj : j < n) : w.cell? ⟨g, j, none⟩ = some (.int .u64 (xs.getD j 0)) := by
  have := (RowAt.of_own h).2 j hj
  obtain ⟨b, off, e, hc⟩ := this
  cases e
  rwa [Nat.zero_add] at hc

set_option maxRecDepth 20000 in
set_option maxHeartbeats 2000000 in
theorem model_in (mo ao : Option Addr) (n k cm ca e : Nat) (M A : List Int) (w : World) (hn : n ≤ 2000) (hk : k ≤ n) (he : e < n) (hM : RowAt w mo n M) (hA : RowAt w ao k A) (uM : U64 M) (uA : U64 A) :
    Calls Ybaf.prog 10 #[.slice mo n cm, .slice ao k ca, .int .i64 e] w fun x w' => Below w.heap.size w w' ∧
      (((mxU M A k).getD e 0 = 18446744073709551615 ∧ x = .returned (.tuple #[.slice mo n cm, .bool true, .bool true])) ∨
       ((mxU M A k).getD e 0 ≠ 18446744073709551615 ∧ x = .returned (.tuple #[.slice (some ⟨w.heap.size, 0, none⟩) n n, .bool false, .bool false]) ∧ w'.ownsRow w.heap.size 31 1 (.slice (some ⟨w.heap.size, 0, none⟩) n n) n ((bump M A e).map (.int .u64)))) := by
  have hml := hM.1
  have hal := hA.1
  have HML : Hid _ := hml
  have HAL : Hid _ := hal
  clear hml hal
  go_enter Ybaf.func10, Ybaf.ntmps10
  go_wp2_with (go_at_call 5; go_must (refine (copy_any mo n cm M _ (by omega) hM).mono ?_; rintro e w1 ⟨rfl, hown1, hb1⟩))
  go_loopw [10] (fun i wr => ∃ j : Nat, i = .int .i64 j ∧ j ≤ k ∧ wr.ownsRow w.heap.size 31 1 (.slice (some ⟨w.heap.size, 0, none⟩) n n) n ((mxU M A j).map (.int .u64)) ∧ Below w.heap.size w wr) (fun i _ => k - (intOf i).toNat)
  case atStart => exact ⟨0, rfl, by omega, hown1, hb1⟩
  case round =>
    obtain ⟨j, rfl, hj, hown, hbel⟩ := hrel
    clear hown1 hb1
    by_cases hlt : j < k
    · obtain ⟨b, off, rfl, hc⟩ := (hA.below hbel).2 j hlt
      have hx := own_get hown j (by omega)
      rw [mxU_get M A j (by have := HML.out; omega), if_neg (by omega)] at hx
      have hfr := hown.frozenAt j
      have hst := hown.stored j (.int .u64 (A.getD j 0))
      have hs1 := mxU_skip M A j (by have := HML.out; omega)
      have hs2 := mxU_store M A j
      obtain ⟨x, hxx⟩ : ∃ x, x = M.getD j 0 := ⟨_, rfl⟩
      obtain ⟨y, hyy⟩ : ∃ y, y = A.getD j 0 := ⟨_, rfl⟩
      rw [← hxx] at hx hs1 hs2
      rw [← hyy] at hc hst hs1 hs2
      have HS1 : Hid _ := hs1
      have HS2 : Hid _ := hs2
      have HST : Hid _ := hst
      clear hxx hyy hs1 hs2 hst
      by_cases hxy : x < y
      · go_wp2_with fail
        go_quiet (fail)
        go_wp2_with fail
        go_roundw
        case rel =>
          refine ⟨j + 1, by go_num, by omega, ?_, below_drewN (hbel.setCell (by exact Nat.le_refl _) _) _⟩
          rw [HS2.out hxy, List.map_set]
          exact own_drewN HST.out.1 _
        case measure => simp [intOf]; omega
      · go_wp2_with fail
        go_quiet (fail)
        go_wp2_with fail
        go_roundw
        case rel =>
          refine ⟨j + 1, by go_num, by omega, ?_, below_drewN hbel _⟩
          rw [HS1.out hxy]
          exact own_drewN hown _
        case measure => simp [intOf]; omega
    · have hjk : j = k := by omega
      subst hjk
      have hx := own_get hown e he
      have hu := mxU_u64 uM uA j (by have := HML.out; omega) e
      have hfr := hown.frozenAt e
      have hst := hown.stored e (.int .u64 ((mxU M A j).getD e 0 + 1))
      obtain ⟨y, hyy⟩ : ∃ y, y = (mxU M A j).getD e 0 := ⟨_, rfl⟩
      rw [← hyy] at hx hu hst
      have HY : Hid _ := hyy
      have HST : Hid _ := hst
      clear hyy hst
      by_cases ho : y = 18446744073709551615
      · subst ho
        go_wp2_with fail
        go_ret3
        exact ⟨hbel, .inl ⟨HY.out.symm, rfl⟩⟩
      · have ht : (y == 18446744073709551615) = false := by simpa using ho
        have hy2 : y ≤ 18446744073709551614 := by omega
        have HO : Hid _ := ho
        clear ho
        go_wp2_with fail
        go_ret3
        refine ⟨hbel.setCell (by exact Nat.le_refl _) _, .inr ⟨by rw [← HY.out]; exact HO.out, rfl, ?_⟩⟩
        have hb : bump M A e = (mxU M A j).set e (y + 1) := by rw [bump, HAL.out, ← HY.out]
        rw [hb, List.map_set]
        exact HST.out.1
end Go.Proofs.YbulksesFmt
