/- stampOf, countsOf; the law's own copy, eq. -/
import Derived.Test.YbulksesFmtClone2
import Derived.Laws.CopyOwn
import Derived.Deep.OwnRows
import Derived.WideShapes
import Derived.Deep.Cut
namespace Go.Proofs.YbulksesFmt
open Go.RowKit

theorem countsOf_any (v : Option Addr) (n cap : Nat) (w : World) :
    Calls Ybaf.prog 18 #[.slice v n cap] w fun e w' => e = .returned (.agg #[.slice v n cap, .pointer none, .int .i64 0, .int .u64 0]) ∧ ∃ o, w' = w.alloc o := by
  go_enter Ybaf.func18, Ybaf.ntmps18
  go_wp2
  exact bodyPost_ret (v := .agg #[.slice v n cap, .pointer none, .int .i64 0, .int .u64 0]) (by simp [results, Ybaf.results18, go_sem]) rfl ⟨rfl, _, rfl⟩

theorem stampOf_pos (v : Option Addr) (n cap : Nat) (w : World) (hn : 0 < n) :
    Calls Ybaf.prog 7 #[.slice v n cap] w fun e w' => e = .returned (.agg #[.slice v n cap, .pointer none, .int .i64 0, .int .u64 0]) ∧ ∃ o o', w' = (w.alloc o).alloc o' := by
  have h0 : ((n : Int) == 0) = false := by simp; omega
  go_enter Ybaf.func7, Ybaf.ntmps7
  go_wp2_with (go_at_call 18; refine (countsOf_any _ _ _ _).mono ?_; rintro e w' ⟨rfl, o, rfl⟩)
  exact bodyPost_ret (v := .agg #[.slice v n cap, .pointer none, .int .i64 0, .int .u64 0]) (by simp [results, Ybaf.results7, go_sem]) rfl ⟨rfl, _, _, rfl⟩

theorem stampOf_zero (v : Option Addr) (cap : Nat) (w : World) :
    Calls Ybaf.prog 7 #[.slice v 0 cap] w fun e w' => e = .returned (.agg #[.slice none 0 0, .pointer none, .int .i64 0, .int .u64 0]) ∧ ∃ o, w' = w.alloc o := by
  go_enter Ybaf.func7, Ybaf.ntmps7
  go_wp2
  exact bodyPost_ret (v := .agg #[.slice none 0 0, .pointer none, .int .i64 0, .int .u64 0]) (by simp [results, Ybaf.results7, go_sem]) rfl ⟨rfl, _, rfl⟩

/-- A slice of uint64 that can be read: its elements. -/
def RowAt (w : World) (ao : Option Addr) (n : Nat) (xs : List Int) : Prop :=
  xs.length = n ∧ ∀ j, j < n → ∃ b off, ao = some ⟨b, off, none⟩ ∧ w.cell? ⟨b, off + j, none⟩ = some (.int .u64 (xs.getD j 0))

theorem RowAt.src {w : World} {ao : Option Addr} {n : Nat} {xs : List Int} (h : RowAt w ao n xs) (hn : 0 < n) :
    ∃ ad, ao = some ad ∧ ∀ j v, (xs.map (Value.int .u64))[j]? = some v → w.cell? (ad.add j) = some v := by
  obtain ⟨b, off, rfl, _⟩ := h.2 0 hn
  refine ⟨_, rfl, fun j v hj => ?_⟩
  have hjl : j < n := by
    apply Nat.lt_of_not_le
    intro hge
    rw [List.getElem?_eq_none (by simp; have := h.1; omega)] at hj
    cases hj
  obtain ⟨b', off', e, hc⟩ := h.2 j hjl
  cases e
  rw [WideShapes.add_plain, hc]
  rw [List.getElem?_map, List.getElem?_eq_getElem (by have := h.1; omega)] at hj
  rw [List.getD_eq_getElem?_getD, List.getElem?_eq_getElem (by have := h.1; omega)]
  exact hj

theorem RowAt.of_own {w : World} {base g n cap : Nat} {xs : List Int} (h : w.ownsRow base 31 1 (.slice (some ⟨g, 0, none⟩) n cap) n (xs.map (.int .u64))) : RowAt w (some ⟨g, 0, none⟩) n xs := by
  have hl : xs.length = n := by have := h.1; simpa using this
  refine ⟨hl, fun j hj => ⟨g, 0, rfl, ?_⟩⟩
  rw [Nat.zero_add, h.cellAt j (by omega), List.getElem?_map, List.getElem?_eq_getElem (by omega), List.getD_eq_getElem?_getD, List.getElem?_eq_getElem (by omega)]
  rfl

theorem size31 : (Ybaf.prog.info? 31).map (·.size) = some 1 := by kernel_rfl

theorem toArray_made (n : Nat) : madeCells #[Value.int .u64 0] n = (List.replicate n (Value.int .u64 0)).toArray := by
  rw [← toList_madeCells_one]

set_option maxRecDepth 20000 in
set_option maxHeartbeats 1000000 in
theorem copy_any (ao : Option Addr) (n cap : Nat) (xs : List Int) (w : World) (hn : n ≤ 2000) (hr : RowAt w ao n xs) :
    Calls Ybaf.prog 5 #[.slice ao n cap] w fun e w' => e = .returned (.slice (some ⟨w.heap.size, 0, none⟩) n n) ∧ w'.ownsRow w.heap.size 31 1 (.slice (some ⟨w.heap.size, 0, none⟩) n n) n (xs.map (.int .u64)) ∧ Below w.heap.size w w' := by
  have hm := run_make_row' (P := Ybaf.prog) 22 31 _ 8 Ybaf.underlying22 info31 rfl .i64 .i64 n (by omega) (by omega)
  have hl := hr.1
  have hg : (w.alloc (.cells (madeCells #[.int .u64 0] n) 31)).heap[w.heap.size]? = some (.cells (List.replicate n (Value.int .u64 0)).toArray 31 (0, 0)) := by
    rw [heap_alloc_new, toArray_made]
  have hsrc : 0 < (xs.map (Value.int .u64)).length → some (⟨w.heap.size, 0, none⟩ : Addr) = some ⟨w.heap.size, 0, none⟩ ∧ ∃ ad, ao = some ad ∧ ∀ j v, (xs.map (Value.int .u64))[j]? = some v → (w.alloc (.cells (madeCells #[.int .u64 0] n) 31)).cell? (ad.add j) = some v := by
    intro h
    obtain ⟨ad, e, hc⟩ := hr.src (by simp at h; omega)
    refine ⟨rfl, ad, e, fun j v hj => ?_⟩
    have := hc j v hj
    exact (World.cell?_alloc_lt _ _ _ (World.block_lt_of_cell? _ _ this)).trans this
  have HG : Hid _ := hg
  have HS : Hid _ := hsrc
  have HL : Hid _ := hl
  clear hg hsrc hl hr
  go_enter Ybaf.func5, Ybaf.ntmps5
  go_upto_region 2 with fail
  go_wp2_with (refine wpList_copy_splice rfl (.tmp 7) (.tmp 8) 22 22 rfl 31 Ybaf.underlying22 size31 (some ⟨w.heap.size, 0, none⟩) ao n n n cap rfl rfl w.heap.size 0 (List.replicate n (.int .u64 0)) 31 HG.out (xs.map (.int .u64)) (by simp [HL.out]) HS.out (by have := HL.out; simp; omega) (ints_oneCell _ _) w.heap.size w ((Below.refl _ _).alloc (Nat.le_refl _) _) (Nat.le_refl _) ?_; intro w2 hg2 hb2)
  go_ret
  have hl := HL.out
  refine ⟨rfl, ⟨by simp [hl], .inr ⟨w.heap.size, n, (xs.map (Value.int .u64)).toArray, rfl, Nat.le_refl _, ?_, Nat.le_refl _, by unfold maxLen; omega, by simp [hl], ?_⟩⟩, hb2⟩
  · rw [hg2.out]; congr 2; simp [splice, hl]
  · rw [List.take_of_length_le (by simp; omega)]

theorem ret_bool {a b : Bool} (h : a = b) : Ending.returned (.bool a) = .returned (.bool b) := by rw [h]

theorem eq_of_getD {xs ys : List Int} (hl : xs.length = ys.length) (h : ∀ j, j < xs.length → xs.getD j 0 = ys.getD j 0) : xs = ys := by
  apply List.ext_getElem hl
  intro i h1 h2
  have := h i h1
  rw [List.getD_eq_getElem?_getD, List.getD_eq_getElem?_getD, List.getElem?_eq_getElem h1, List.getElem?_eq_getElem h2] at this
  exact this

set_option maxHeartbeats 1000000 in
theorem eq_any (ao bo : Option Addr) (n m ca cb : Nat) (xs ys : List Int) (w : World) (hn : n ≤ 2000) (hm : m ≤ 2000) (hx : RowAt w ao n xs) (hy : RowAt w bo m ys) :
    Calls Ybaf.prog 9 #[.slice ao n ca, .slice bo m cb] w fun e w' => e = .returned (.bool (decide (xs = ys))) ∧ ∃ k, w' = w.drewN k := by
  have hxl := hx.1
  have hyl := hy.1
  by_cases hnm : n = m
  · subst hnm
    go_enter Ybaf.func9, Ybaf.ntmps9
    go_wp2_with fail
    go_loopw [5] (fun i wr => ∃ k : Nat, i = .int .i64 k ∧ k ≤ n ∧ Hid (∀ j, j < k → xs.getD j 0 = ys.getD j 0) ∧ ∃ q, wr = w.drewN q) (fun i _ => n - (intOf i).toNat)
    case atStart => exact ⟨0, rfl, by omega, fun j hj => by omega, 0, rfl⟩
    case round =>
      obtain ⟨k, rfl, hk, HA, q, rfl⟩ := hrel
      by_cases hlt : k < n
      · obtain ⟨b, off, rfl, hc⟩ := hx.2 k hlt
        obtain ⟨b', off', rfl, hc'⟩ := hy.2 k hlt
        obtain ⟨x, hxx⟩ : ∃ x, x = xs.getD k 0 := ⟨_, rfl⟩
        obtain ⟨y, hyy⟩ : ∃ y, y = ys.getD k 0 := ⟨_, rfl⟩
        rw [← hxx] at hc
        rw [← hyy] at hc'
        have HX : Hid _ := hxx
        have HY : Hid _ := hyy
        clear hxx hyy hx hy
        by_cases he : x = y
        · have ht : (x != y) = false := by simp [he]
          have HE : Hid _ := he
          clear he
          go_wp2_with fail
          go_quiet (fail)
          go_wp2_with fail
          go_roundw
          case rel =>
            refine ⟨k + 1, by go_num, by omega, fun j hj => ?_, _, rfl⟩
            by_cases hjk : j = k
            · subst hjk; rw [← HX.out, ← HY.out]; exact HE.out
            · exact HA.out j (by omega)
          case measure => simp [intOf]; omega
        · have ht : (x != y) = true := by simpa using he
          have HE : Hid _ := he
          clear he
          go_wp2_with fail
          go_quiet (fail)
          go_wp2_with fail
          go_ret
          refine ⟨ret_bool (decide_eq_false fun e => HE.out ?_).symm, q + nq, by rw [World.drewN_drewN]⟩
          rw [HX.out, HY.out, e]
      · have hkn : k = n := by omega
        subst hkn
        go_wp2_with fail
        go_ret
        exact ⟨ret_bool (decide_eq_true (eq_of_getD (by omega) (fun j hj => HA.out j (by omega)))).symm, _, rfl⟩
  · have ht : ((n : Int) != (m : Int)) = true := by simp; omega
    have HF : Hid (decide (xs = ys) = false) := decide_eq_false fun e => hnm (by rw [← hxl, ← hyl, e])
    clear hx hy hxl hyl
    go_enter Ybaf.func9, Ybaf.ntmps9
    go_wp2_with fail
    go_ret
    exact ⟨ret_bool HF.out.symm, 0, rfl⟩
end Go.Proofs.YbulksesFmt
