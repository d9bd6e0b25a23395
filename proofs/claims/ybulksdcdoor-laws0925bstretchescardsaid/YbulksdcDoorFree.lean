import Derived.Test.YbulksdcDoorCursor
import Derived.Test.YbulksdcDoorStr
namespace Go.Proofs.YbulksdcDoor
open Go.RowKit

theorem info49 : (Ybad.prog.info? 49).map (fun i => (i.zero, i.size, i.bytes)) = some (some (.agg #[.int .i64 0, .int .i64 0, .int .i64 0]), 3, 24) := by kernel_rfl

theorem Held.below {w w' : World} {hb db cb W h B : Nat} {ds : List Int} {ws : List Nat} (H : Held w hb db cb W h ds ws) (g : Below B w w') (h0 : 0 < B) (h1 : hb < B) (h2 : db < B) (h3 : cb < B) : Held w' hb db cb W h ds ws :=
  ⟨fun j hj => (g.cell (by exact h0)).trans (H.tab j hj), (g.cell (by exact h1)).trans H.width, (g.cell (by exact h1)).trans H.height, (g.cell (by exact h1)).trans H.delta, (g.cell (by exact h1)).trans H.changing, fun i hi => (g.cell (by exact h2)).trans (H.dcells i hi), fun i hi => (g.cell (by exact h3)).trans (H.wcells i hi)⟩

/-- The cells of a list of stretches. -/
def cells3 : List (Int × Int × Int) → List Value
  | [] => []
  | (a, b, c) :: l => .int .i64 a :: .int .i64 b :: .int .i64 c :: cells3 l

theorem cells3_append (l m : List (Int × Int × Int)) : cells3 (l ++ m) = cells3 l ++ cells3 m := by
  induction l with
  | nil => rfl
  | cons a l ih => obtain ⟨a, b, c⟩ := a; simp [cells3, ih]

theorem cells3_length (l : List (Int × Int × Int)) : (cells3 l).length = l.length * 3 := by
  induction l with
  | nil => rfl
  | cons a l ih => obtain ⟨a, b, c⟩ := a; simp [cells3, ih]; omega

set_option maxHeartbeats 1000000 in
theorem newRowCursor_any (hb : Nat) (w : World) :
    Calls Ybad.prog 5 #[.pointer (some ⟨hb, 0, none⟩)] w fun e w' => e = .returned (.agg #[.pointer (some ⟨hb, 0, none⟩), .int .i64 (-1), .int .i64 0]) ∧ ∃ o, w' = w.alloc o := by
  go_enter Ybad.func5, Ybad.ntmps5
  go_wp2
  exact bodyPost_ret (v := .agg #[.pointer (some ⟨hb, 0, none⟩), .int .i64 (-1), .int .i64 0]) (by simp [results, Ybad.results5, go_sem]) rfl ⟨rfl, _, rfl⟩

theorem cell_three_new (w : World) (t : TypeId) (a b c : Value) : ∀ (j : Nat) (u : Value), [a, b, c][j]? = some u → (w.alloc (.cells #[a, b, c] t)).cell? ((⟨w.heap.size, 0, none⟩ : Addr).add j) = some u := by
  intro j u hj
  match j, hj with
  | 0, hj => simp at hj; subst hj; simp [Addr.add, go_sem]
  | 1, hj => simp at hj; subst hj; simp [Addr.add, go_sem]
  | 2, hj => simp at hj; subst hj; simp [Addr.add, go_sem]
  | _ + 3, hj => simp at hj

theorem one_three {k : IntKind} (a b c : Int) : ∀ u ∈ [Value.int k a, .int k b, .int k c], u.oneCell' = true := by
  intro u hu
  simp at hu
  rcases hu with rfl | rfl | rfl <;> rfl

theorem below_drewN {B : Nat} {a w : World} (h : Below B a w) (n : Nat) : Below B a (w.drewN n) := ⟨h.os, h.tape, h.output, h.size, h.block⟩

theorem Cur.same {w w2 : World} {kb hb : Nat} {row used : Int} (C : Cur w kb hb row used) (h : w2.heap[kb]? = w.heap[kb]?) : Cur w2 kb hb row used :=
  ⟨(World.cell?_of_block (by exact h)).trans C.c0, (World.cell?_of_block (by exact h)).trans C.c1, (World.cell?_of_block (by exact h)).trans C.c2, (World.frozen?_of_block (by exact h)).trans C.f1, (World.frozen?_of_block (by exact h)).trans C.f2⟩

theorem own_mono {w : World} {base base' : Nat} {e : TypeId} {size : Nat} {v : Value} {n : Nat} {xs : List Value} (h : w.ownsRow base e size v n xs) (hb : base' ≤ base) : w.ownsRow base' e size v n xs := by
  obtain ⟨h1, h2⟩ := h
  refine ⟨h1, ?_⟩
  rcases h2 with h2 | ⟨g, cap, cur, hv, hg, r⟩
  · exact .inl h2
  · exact .inr ⟨g, cap, cur, hv, Nat.le_trans hb hg, r⟩

theorem own_ne {w : World} {base : Nat} {e : TypeId} {size : Nat} {v : Value} {n : Nat} {xs : List Value} (h : w.ownsRow base e size v n xs) {b : Nat} (hb : b < base) : v.ownBlock ≠ some b := by
  intro e; have := (h.lt b e).1; omega

set_option maxHeartbeats 2000000 in
theorem freeStretches_any (hb db cb W h : Nat) (ds : List Int) (ws : List Nat) (w : World) (H : Held w hb db cb W h ds ws) (F : Fits W h ds ws)
    (h0 : 0 < w.heap.size) (h1 : hb < w.heap.size) (h2 : db < w.heap.size) (h3 : cb < w.heap.size) :
    Calls Ybad.prog 4 #[.pointer (some ⟨hb, 0, none⟩)] w fun e w' => ∃ v, e = .returned v ∧ w'.ownsRow w.heap.size 49 3 v (res ds W h).length (cells3 (res ds W h)) ∧ Below w.heap.size w w' := by
  have hh := F.hh
  obtain ⟨i0, hi, hz0, hz1, hz2⟩ := info_parts info49
  go_enter Ybad.func4, Ybad.ntmps4
  go_wp2_with (go_at_call 5; refine (newRowCursor_any _ _).mono ?_; rintro e w' ⟨rfl, o, rfl⟩)
  go_loopw [3, 5] (fun v yv wr => ∃ y s : Nat, yv = .int .i64 y ∧ y ≤ h ∧ s ≤ y ∧ (y < h → y = 0 ∨ ds.getD y 0 ≠ 0) ∧ wr.ownsRow (w.heap.size + 2) 49 3 v (res ds W y).length (cells3 (res ds W y)) ∧ Below w.heap.size w wr ∧ w.heap.size + 2 ≤ wr.heap.size ∧ Cur wr (w.heap.size + 1) hb ((s : Int) - 1) (pre ds s)) (fun _ yv _ => h - (intOf yv).toNat)
  case atStart =>
    refine ⟨0, 0, rfl, by omega, by omega, fun _ => .inl rfl, World.ownsRow_nil _ _ _ _, ((Below.refl _ _).alloc (Nat.le_refl _) _).alloc (by simp) _, by simp, ?_⟩
    exact ⟨by simp [go_sem], by simp [go_sem], by simp [go_sem, pre], by simp [go_sem], by simp [go_sem]⟩
  case round =>
    obtain ⟨y, s, rfl, hy, hs, hst, hown, hbel, hsz, hcur⟩ := hrel
    have H' := H.below hbel h0 h1 h2 h3
    have hwi := H'.width
    have hhe := H'.height
    by_cases hlt : y < h
    · have hU := usedAt_any hb db cb (w.heap.size + 1) W h ds ws s y wr H' F hlt hs hcur (by omega) (by omega) (by omega) (by omega)
      go_wp2_with fail
      go_region_with (go_at_call 6; refine (usedAt_any hb db cb (w.heap.size + 1) W h ds ws s y _ (H'.drewN 1) F hlt hs (hcur.drewN 1) (by omega) (by omega) (by omega) (by omega)).mono ?_; rintro e w' ⟨rfl, hg, hC⟩; have hwi' := hg.cell hwi (by simp; omega))
      all_goals
        have H2 := (H'.drewN 1).grown hg (by omega) (by omega) (by omega) (by omega)
        have hown1 := (show (wr.drewN 1).ownsRow _ _ _ _ _ _ from hown).kept hg (.inr (own_ne hown (by omega)))
        have hsz1 : w.heap.size + 2 ≤ w'.heap.size := Nat.le_trans hsz hg.size
        obtain ⟨k0, k1, k2, kf1, kf2⟩ := hC
        clear hU hcur
        go_wp2_with fail
        refine (nextChange_any hb db cb (w.heap.size + 1) W h ds ws y _ H2 F (by omega) k0 k1).mono ?_
        rintro e w2 ⟨rfl, n, rfl⟩
        obtain ⟨n1, n2, n3, n4⟩ := nxt_spec (bitOf ws) h (h - (y + 1)) (y + 1) (by omega)
        have hlen := (st_len ds W y).2
        go_wp2_with (at_builtin; refine wpList_append_own _ rfl (.tmp 24) (.tmp 30) 46 rfl (w.heap.size + 2) 49 i0 _ 3 24 Ybad.underlying46 hi hz0 hz1 hz2 rfl (by decide) _ _ _ rfl (World.ownsRow.alloc (show (w'.drewN n).ownsRow _ _ _ _ _ _ from hown1) _) _ 1 1 _ rfl rfl (cell_three_new _ _ _ _ _) (one_three _ _ _) (by unfold maxLen; omega) (by omega) (by simp; omega) ?_; intro v2 w2 hown2 hg2 _)
        have hr := res_next ds W y (nxt (bitOf ws) (y + 1) h) (hst hlt) (by omega) (fun r a b => by have := n3 r (by omega) b; rw [F.hbit r (by omega)] at this; simpa using this)
        have hpb := pre_bd ds F.hd (y + 1) (by have := F.hlen; omega)
        have hWb := F.hW
        have R : w2.ownsRow (w.heap.size + 2) 49 3 v2 (res ds W (nxt (bitOf ws) (y + 1) h)).length (cells3 (res ds W (nxt (bitOf ws) (y + 1) h))) := by
          rw [hr, cells3_append, List.length_append]
          rw [show wrap64 ((W : Int) - pre ds (y + 1)) = (W : Int) - pre ds (y + 1) by unfold wrap64; omega] at hown2
          exact hown2
        have hne2 : ∀ k, Value.ownBlock u3 = some k → w.heap.size + 2 ≤ k := fun k e => (hown.lt k e).1
        have b1 : Below w.heap.size w w' := (show Below w.heap.size w (wr.drewN 1) from below_drewN hbel 1).grown hg (by simp; omega) (fun k e => by cases e; omega)
        have hA : w2.heap[w.heap.size + 1]? = w'.heap[w.heap.size + 1]? := by
          rw [hg2.block (w.heap.size + 1) (by simp; omega) (fun e => by have := hne2 _ e.symm; omega)]
          exact Below.heap_alloc _ _ _ (by simp; omega)
        go_roundw
        case rel =>
          refine ⟨_, y + 1, rfl, n2, by omega, fun h => .inr ?_, R, ?_, ?_, ?_⟩
          · have := n4 h
            rw [F.hbit _ h] at this
            simpa using this
          · exact ((below_drewN b1 n).alloc (by simp; omega) _).grown hg2 (by simp; omega) (fun k e => by have := hne2 k e; omega)
          · have := hg2.size; simp at this; omega
          · exact Cur.same (by rw [show ((y + 1 : Nat) : Int) - 1 = (y : Int) by omega]; exact ⟨k0, k1, k2, kf1, kf2⟩) hA
        case measure => simp [intOf]; omega
    · have hyh : y = h := by omega
      subst hyh
      go_wp2_with fail
      go_ret
      exact ⟨_, rfl, own_mono hown (by omega), hbel⟩
end Go.Proofs.YbulksdcDoor
