/- PlausibleStamp.Merge, where the second stamp has no more entries than the first, and no patch. -/
import Derived.Test.YbulksesFmtStep
namespace Go.Proofs.YbulksesFmt
open Go.RowKit

theorem CL.below {w w' : World} {b o B : Nat} {v : Value} {at_ : Nat} {p : Int} (C : CL w b o v at_ p) (hb : Below B w w') (h : b < B) : CL w' b o v at_ p :=
  ⟨(hb.cell (by exact h)).trans C.c0, (hb.cell (by exact h)).trans C.c1, (hb.cell (by exact h)).trans C.c2, (hb.cell (by exact h)).trans C.c3⟩

theorem CL.set_other {w : World} {b o : Nat} {v : Value} {at_ : Nat} {p : Int} (C : CL w b o v at_ p) {c : Nat} (h : c ≠ b) (i : Nat) (u : Value) : CL (w.setCell ⟨c, i, none⟩ u) b o v at_ p :=
  ⟨(World.cell?_setCell_other _ _ _ _ (fun e => h (congrArg Addr.block e))).trans C.c0, (World.cell?_setCell_other _ _ _ _ (fun e => h (congrArg Addr.block e))).trans C.c1, (World.cell?_setCell_other _ _ _ _ (fun e => h (congrArg Addr.block e))).trans C.c2, (World.cell?_setCell_other _ _ _ _ (fun e => h (congrArg Addr.block e))).trans C.c3⟩

theorem own_set_other {w : World} {base : Nat} {e : TypeId} {size : Nat} {v : Value} {n : Nat} {xs : List Value} (h : w.ownsRow base e size v n xs) (b i : Nat) (ha : v.ownBlock ≠ some b) (u : Value) : (w.setCell ⟨b, i, none⟩ u).ownsRow base e size v n xs :=
  h.kept (gb_set (gb_refl w (some b)) i u) (.inr ha)

theorem own_mono {w : World} {base base' : Nat} {e : TypeId} {size : Nat} {v : Value} {n : Nat} {xs : List Value} (h : w.ownsRow base e size v n xs) (hb : base' ≤ base) : w.ownsRow base' e size v n xs := by
  obtain ⟨h1, h2⟩ := h
  refine ⟨h1, ?_⟩
  rcases h2 with h2 | ⟨g, cap, cur, hv, hg, r⟩
  · exact .inl h2
  · exact .inr ⟨g, cap, cur, hv, Nat.le_trans hb hg, r⟩

theorem max_if (x y : Int) : (if x < y then y else x) = max x y := by split <;> omega

/-- The four cells of a result that lies in memory, free to be written. -/
structure Res (w : World) (rb : Nat) : Prop where
  r0 : w.cell? ⟨rb, 0, none⟩ = some (.slice none 0 0)
  r1 : w.cell? ⟨rb, 1, none⟩ = some (.pointer none)
  r2 : w.cell? ⟨rb, 2, none⟩ = some (.int .i64 0)
  r3 : w.cell? ⟨rb, 3, none⟩ = some (.int .u64 0)
  g0 : w.frozen? ⟨rb, 0, none⟩ = false
  g1 : w.frozen? ⟨rb, 1, none⟩ = false
  g2 : w.frozen? ⟨rb, 2, none⟩ = false
  g3 : w.frozen? ⟨rb, 3, none⟩ = false

theorem Res.of {w : World} {rb : Nat} (h : w.heap[rb]? = some (.cells #[.slice none 0 0, .pointer none, .int .i64 0, .int .u64 0] 35 (0, 0))) : Res w rb :=
  ⟨cell_of_row w rb 0 _ _ _ h, cell_of_row w rb 1 _ _ _ h, cell_of_row w rb 2 _ _ _ h, cell_of_row w rb 3 _ _ _ h, frozen_of_row w rb 0 _ _ h, frozen_of_row w rb 1 _ _ h, frozen_of_row w rb 2 _ _ h, frozen_of_row w rb 3 _ _ h⟩

/-- The loop's row behind the store of the maximum. -/
theorem mxU_max (M A : List Int) (j : Nat) (x y : Int) (hx : x = M.getD j 0) (hy : y = A.getD j 0) : mxU M A (j + 1) = (mxU M A j).set j (max x y) := by
  rw [mxU, hx, hy]

set_option maxRecDepth 20000 in
set_option maxHeartbeats 2000000 in
theorem merge_any (g n cap at_ k uc : Nat) (uo : Option Addr) (p : Int) (hs A : List Int) (w : World) (hn0 : 0 < n) (hn : n ≤ 2000) (ha : at_ ≤ n) (hk : k ≤ n) (hown : w.ownsRow 0 31 1 (.slice (some ⟨g, 0, none⟩) n cap) n (hs.map (.int .u64))) (hA : RowAt w uo k A) :
    Calls Ybaf.prog 23 #[.agg #[.slice (some ⟨g, 0, none⟩) n cap, .pointer none, .int .i64 at_, .int .u64 p], .agg #[.slice uo k uc, .pointer none, .int .i64 0, .int .u64 0]] w fun x w' =>
      ∃ mb, x = .returned (.agg #[.slice (some ⟨mb, 0, none⟩) n n, .pointer none, .int .i64 0, .int .u64 0]) ∧ w.heap.size ≤ mb ∧ w'.ownsRow w.heap.size 31 1 (.slice (some ⟨mb, 0, none⟩) n n) n ((mxU (rd hs at_ p) A k).map (.int .u64)) ∧ Below w.heap.size w w' := by
  obtain ⟨W3, hW3⟩ : ∃ W3, W3 = ((w.alloc (.cells #[.slice (some ⟨g, 0, none⟩) n cap, .pointer none, .int .i64 at_, .int .u64 p] 35)).alloc (.cells #[.slice uo k uc, .pointer none, .int .i64 0, .int .u64 0] 35)).alloc (.cells #[.slice none 0 0, .pointer none, .int .i64 0, .int .u64 0] 35) := ⟨_, rfl⟩
  have h3 : W3.heap.size = w.heap.size + 3 := by rw [hW3]; simp
  have hb3 : Below w.heap.size w W3 := by rw [hW3]; exact (((Below.refl _ _).alloc (Nat.le_refl _) _).alloc (by simp) _).alloc (by simp; omega) _
  have CS : CL W3 w.heap.size 0 (.slice (some ⟨g, 0, none⟩) n cap) at_ p := by rw [hW3]; exact ((CL.boxed w _ at_ p 35).alloc _).alloc _
  have CU : CL W3 (w.heap.size + 1) 0 (.slice uo k uc) 0 0 := by
    rw [hW3]
    have := (CL.boxed (w.alloc (.cells #[.slice (some ⟨g, 0, none⟩) n cap, .pointer none, .int .i64 at_, .int .u64 p] 35)) (.slice uo k uc) 0 0 35).alloc (.cells #[.slice none 0 0, .pointer none, .int .i64 0, .int .u64 0] 35)
    simpa using this
  have hR3 : W3.heap[w.heap.size + 2]? = some (.cells #[.slice none 0 0, .pointer none, .int .i64 0, .int .u64 0] 35 (0, 0)) := by
    rw [hW3, show w.heap.size + 2 = ((w.alloc (.cells #[.slice (some ⟨g, 0, none⟩) n cap, .pointer none, .int .i64 at_, .int .u64 p] 35)).alloc (.cells #[.slice uo k uc, .pointer none, .int .i64 0, .int .u64 0] 35)).heap.size by simp, heap_alloc_new]
  have hO3 : W3.ownsRow 0 31 1 (.slice (some ⟨g, 0, none⟩) n cap) n (hs.map (.int .u64)) := by rw [hW3]; exact ((hown.alloc _).alloc _).alloc _
  have hl : (rd hs at_ p).length = n := by rw [rd_len]; have := hown.1; simpa using this
  have HW3 := hideIt hW3
  clear hW3 hown
  have HL := hideIt hl
  clear hl
  go_enter Ybaf.func23, Ybaf.ntmps23
  go_upto_region 1 with fail
  rw [← HW3.out]
  go_wp2_with fail
  refine (len_any (w.heap.size + 1) 0 uo k uc 0 0 W3 CU).mono ?_
  rintro x w' ⟨rfl, rfl⟩
  go_wp2_with fail
  refine (len_any w.heap.size 0 (some ⟨g, 0, none⟩) n cap at_ p _ CS).mono ?_
  rintro x w' ⟨rfl, rfl⟩
  go_wp2_with fail
  have hcl := clone_any w.heap.size 0 g n cap at_ p hs _ CS hn0 hn ha hO3
  rw [h3] at hcl
  go_fit hcl
  rintro x W4 ⟨rfl, hown4, hb4⟩
  clear hcl CS hO3
  go_wp2_with fail
  have CU4 := CU.below hb4 (by omega)
  refine (len_any (w.heap.size + 1) 0 uo k uc 0 0 _ CU4).mono ?_
  rintro x w' ⟨rfl, rfl⟩
  have hbw := hb3.trans (hb4.mono (by omega))
  have hR4 := (hb4.block (w.heap.size + 2) (by omega)).trans hR3
  clear CU hR3 hb3 hb4 h3 HW3
  go_wp2_with fail
  go_loopw [18] (fun t wr => ∃ j : Nat, t = .int .i64 j ∧ j ≤ k ∧ wr.ownsRow (w.heap.size + 3) 31 1 (.slice (some ⟨w.heap.size + 3, 0, none⟩) n n) n ((mxU (rd hs at_ p) A j).map (.int .u64)) ∧ Below w.heap.size w wr ∧ CL wr (w.heap.size + 1) 0 (.slice uo k uc) 0 0 ∧ wr.heap[w.heap.size + 2]? = some (.cells #[.slice none 0 0, .pointer none, .int .i64 0, .int .u64 0] 35 (0, 0))) (fun t _ => k - (intOf t).toNat)
  case atStart => exact ⟨0, rfl, by omega, hown4, hbw, CU4, hR4⟩
  case round =>
    obtain ⟨j, rfl, hj, hown, hbel, CU, hR⟩ := hrel
    clear hown4 hbw CU4 hR4
    by_cases hlt : j < k
    · obtain ⟨b, off, rfl, hc⟩ := (hA.below hbel).2 j hlt
      have hx := own_get hown j (by omega)
      rw [mxU_get _ A j (by have := HL.out; omega), if_neg (by omega)] at hx
      have hfr := hown.frozenAt j
      obtain ⟨x, hxx⟩ : ∃ x, x = (rd hs at_ p).getD j 0 := ⟨_, rfl⟩
      obtain ⟨y, hyy⟩ : ∃ y, y = A.getD j 0 := ⟨_, rfl⟩
      rw [← hxx] at hx
      rw [← hyy] at hc
      have HM := hideIt (mxU_max (rd hs at_ p) A j x y hxx hyy)
      clear hxx hyy
      go_wp2_with fail
      go_region_with (go_at_call 31; refine (get_head (w.heap.size + 1) 0 b off k uc 0 j 0 y _ ?_ (by omega) hlt (by omega) ?_).mono ?_; exact CU.drewN 1; exact hc; rintro e w' ⟨rfl, rfl⟩)
      all_goals
        go_wp2_with fail
        go_roundw
        case rel =>
          refine ⟨j + 1, by go_num, by omega, ?_, (hbel.setCell (by simp) _).drew, CL.drewN (CU.set_other (by omega) _ _) 1, ?_⟩
          · rw [HM.out, List.map_set, ← max_if]
            exact (hown.stored j _).1
          · exact (heap_setCell_other _ _ _ _ (by simp)).trans hR
        case measure => simp [intOf]; omega
    · have hjk : j = k := by omega
      subst hjk
      obtain ⟨r0, r1, r2, r3, q0, q1, q2, q3⟩ := Res.of hR
      have hsz : w.heap.size + 3 < wr.heap.size := (hown.lt _ rfl).2
      have hs1 : w.heap.size + 1 + 1 < wr.heap.size := by omega
      have hs2 : w.heap.size + 1 + 1 < wr.heap.size + 1 := by omega
      go_wp2_with fail
      refine (stampOf_pos (some ⟨w.heap.size + 3, 0, none⟩) n n _ hn0).mono ?_
      rintro x w' ⟨rfl, o1, o2, rfl⟩
      go_wp2_with fail
      refine bodyPost_ret (v := .agg #[.slice (some ⟨w.heap.size + 3, 0, none⟩) n n, .pointer none, .int .i64 0, .int .u64 0]) (by simp [results, Ybaf.results23, go_sem, r0, r1, r2, r3, hs1, hs2]) rfl ⟨_, rfl, by omega, ?_, ?_⟩
      · exact own_mono (((own_set_other (own_set_other (own_set_other (own_set_other hown _ _ (by simp [Value.ownBlock]) _) _ _ (by simp [Value.ownBlock]) _) _ _ (by simp [Value.ownBlock]) _) _ _ (by simp [Value.ownBlock]) _).alloc _).alloc _) (by omega)
      · exact ((((((hbel.setCell (by simp; omega) _).setCell (by simp; omega) _).setCell (by simp; omega) _).setCell (by simp; omega) _).alloc (by simp; omega) _).alloc (by simp; omega) _)
end Go.Proofs.YbulksesFmt
