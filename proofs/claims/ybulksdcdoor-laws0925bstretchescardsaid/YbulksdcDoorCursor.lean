import Derived.Test.YbulksdcDoorNext
import Derived.Deep.QuietTactic
import Derived.BigQuiet
import Derived.BigRegion
import Derived.Deep.RegionWith
namespace Go.Proofs.YbulksdcDoor
open Go.RowKit

/-- What the walks read of a rowLists: its struct at block hb, its deltas' row at block db, the words of its set 'changing' at block cb; the de Bruijn table. -/
structure Held (w : World) (hb db cb : Nat) (W h : Nat) (ds : List Int) (ws : List Nat) : Prop where
  tab : TabAt 0 Lib.deBruijn64tab w
  width : w.cell? ⟨hb, 0, none⟩ = some (.int .i64 W)
  height : w.cell? ⟨hb, 1, none⟩ = some (.int .i64 h)
  delta : w.cell? ⟨hb, 3, none⟩ = some (.slice (some ⟨db, 0, none⟩) h h)
  changing : w.cell? ⟨hb, 8, none⟩ = some (.slice (some ⟨cb, 0, none⟩) ws.length ws.length)
  dcells : ∀ i, i < h → w.cell? ⟨db, i, none⟩ = some (.int .i64 (ds.getD i 0))
  wcells : ∀ i, i < ws.length → w.cell? ⟨cb, i, none⟩ = some (.int .u64 (ws.getD i 0))

/-- The plain side's bounds. -/
structure Fits (W h : Nat) (ds : List Int) (ws : List Nat) : Prop where
  hh : h ≤ 1024
  hW : W ≤ 65535
  hlen : ds.length = h
  hd : ∀ i, -128 ≤ ds.getD i 0 ∧ ds.getD i 0 ≤ 127
  hws : ws.length = h / 64 + 1
  hwd : ∀ x ∈ ws, x < 18446744073709551616
  hbit : ∀ r, r < h → bitOf ws r = decide (ds.getD r 0 ≠ 0)

/-- The class of worlds in which one reads: 'Held' over draws. -/
theorem Held.drewN {w : World} {hb db cb W h : Nat} {ds : List Int} {ws : List Nat} (H : Held w hb db cb W h ds ws) (n : Nat) : Held (w.drewN n) hb db cb W h ds ws :=
  ⟨fun j hj => by simpa using H.tab j hj, by simpa using H.width, by simpa using H.height, by simpa using H.delta, by simpa using H.changing, fun i hi => by simpa using H.dcells i hi, fun i hi => by simpa using H.wcells i hi⟩

set_option maxHeartbeats 1000000 in
theorem nextChange_any (hb db cb kb W h : Nat) (ds : List Int) (ws : List Nat) (row : Nat) (w : World) (H : Held w hb db cb W h ds ws) (F : Fits W h ds ws) (hrow : row ≤ 1024)
    (hk0 : w.cell? ⟨kb, 0, none⟩ = some (.pointer (some ⟨hb, 0, none⟩))) (hk1 : w.cell? ⟨kb, 1, none⟩ = some (.int .i64 row)) :
    Calls Ybad.prog 7 #[.pointer (some ⟨kb, 0, none⟩)] w fun e w' => e = .returned (.int .i64 (nxt (bitOf ws) (row + 1) h)) ∧ ∃ n, w' = w.drewN n := by
  have hhe := H.height
  have hch := H.changing
  have hh := F.hh
  have hws := F.hws
  have HWS : Hid _ := hws
  have hl : ws.length ≤ 100 := by omega
  have hl2 : h ≤ 64 * ws.length := by omega
  clear hws
  go_enter Ybad.func7, Ybad.ntmps7
  go_wp2_with fail
  go_quiet ((go_at_call 8; exact Calls.quiet_of_same (next_any cb ws (row + 1) h _ (H.drewN _).tab F.hwd (H.drewN _).wcells hl hl2 (by omega))))
  go_wp2
  go_ret
  exact ⟨rfl, _, rfl⟩

theorem gb_refl (w : World) (row : Option Nat) : w.grownBy w row := ⟨rfl, rfl, rfl, Nat.le_refl _, fun _ _ _ => rfl⟩
theorem gb_trans {a b c : World} {row : Option Nat} (h : a.grownBy b row) (k : b.grownBy c row) : a.grownBy c row :=
  ⟨k.os.trans h.os, k.tape.trans h.tape, k.output.trans h.output, Nat.le_trans h.size k.size, fun i hi hn => (k.block i (Nat.lt_of_lt_of_le hi h.size) hn).trans (h.block i hi hn)⟩
theorem gb_set {a w : World} {b : Nat} (h : a.grownBy w (some b)) (i : Nat) (v : Value) : a.grownBy (w.setCell ⟨b, i, none⟩ v) (some b) :=
  gb_trans h ⟨rfl, rfl, rfl, by simp, fun k _ hk => heap_setCell_other _ _ _ _ (by intro e; exact hk (by simp [e]))⟩
theorem gb_drewN {a w : World} {row : Option Nat} (h : a.grownBy w row) (n : Nat) : a.grownBy (w.drewN n) row := ⟨h.os, h.tape, h.output, h.size, h.block⟩

theorem Held.grown {w w' : World} {hb db cb W h kb : Nat} {ds : List Int} {ws : List Nat} (H : Held w hb db cb W h ds ws) (g : w.grownBy w' (some kb)) (h0 : kb ≠ 0) (h1 : kb ≠ hb) (h2 : kb ≠ db) (h3 : kb ≠ cb) : Held w' hb db cb W h ds ws :=
  ⟨fun j hj => g.cell (H.tab j hj) (by simp; omega), g.cell H.width (by simp; omega), g.cell H.height (by simp; omega), g.cell H.delta (by simp; omega), g.cell H.changing (by simp; omega), fun i hi => g.cell (H.dcells i hi) (by simp; omega), fun i hi => g.cell (H.wcells i hi) (by simp; omega)⟩

/-- The cursor's three cells, free to be written. -/
structure Cur (w : World) (kb hb : Nat) (row used : Int) : Prop where
  c0 : w.cell? ⟨kb, 0, none⟩ = some (.pointer (some ⟨hb, 0, none⟩))
  c1 : w.cell? ⟨kb, 1, none⟩ = some (.int .i64 row)
  c2 : w.cell? ⟨kb, 2, none⟩ = some (.int .i64 used)
  f1 : w.frozen? ⟨kb, 1, none⟩ = false
  f2 : w.frozen? ⟨kb, 2, none⟩ = false

theorem Cur.setUsed {w : World} {kb hb : Nat} {row used : Int} (C : Cur w kb hb row used) (u : Int) : Cur (w.setCell ⟨kb, 2, none⟩ (.int .i64 u)) kb hb row u :=
  ⟨by rw [World.cell?_setCell_other _ _ _ _ (by simp)]; exact C.c0, by rw [World.cell?_setCell_other _ _ _ _ (by simp)]; exact C.c1, World.cell?_setCell_same _ _ _ C.c2, by simpa using C.f1, by simpa using C.f2⟩
theorem Cur.setRow {w : World} {kb hb : Nat} {row used : Int} (C : Cur w kb hb row used) (r : Int) : Cur (w.setCell ⟨kb, 1, none⟩ (.int .i64 r)) kb hb r used :=
  ⟨by rw [World.cell?_setCell_other _ _ _ _ (by simp)]; exact C.c0, World.cell?_setCell_same _ _ _ C.c1, by rw [World.cell?_setCell_other _ _ _ _ (by simp)]; exact C.c2, by simpa using C.f1, by simpa using C.f2⟩

theorem Cur.drewN {w : World} {kb hb : Nat} {row used : Int} (C : Cur w kb hb row used) (n : Nat) : Cur (w.drewN n) kb hb row used := ⟨C.c0, C.c1, C.c2, C.f1, C.f2⟩

theorem pre_wrap {W h : Nat} {ds : List Int} {ws : List Nat} (F : Fits W h ds ws) (k : Nat) (hk : k < h) : wrap64 (pre ds k + ds[k]?.getD 0) = pre ds (k + 1) := by
  have h1 := pre_bd ds F.hd k (by have := F.hlen; omega)
  have h2 := F.hd k
  have h3 := F.hh
  rw [pre_succ ds k (by have := F.hlen; omega)]
  rw [List.getD_eq_getElem?_getD] at h2 ⊢
  unfold wrap64
  omega

theorem nxt_flat {W h : Nat} {ds : List Int} {ws : List Nat} (F : Fits W h ds ws) (s to : Nat) (hs : s ≤ to) (ht : to ≤ h) :
    s ≤ nxt (bitOf ws) s to ∧ nxt (bitOf ws) s to ≤ to ∧ pre ds (nxt (bitOf ws) s to) = pre ds s := by
  obtain ⟨a, b, c, _⟩ := nxt_spec (bitOf ws) to (to - s) s (by omega)
  refine ⟨a, b, ?_⟩
  have e : nxt (bitOf ws) s to = s + (nxt (bitOf ws) s to - s) := by omega
  rw [e]
  refine pre_flat ds s _ (by have := F.hlen; omega) (fun r h1 h2 => ?_)
  have h3 := c r h1 (by omega)
  rw [F.hbit r (by omega)] at h3
  simpa using h3

set_option maxHeartbeats 1000000 in
theorem usedAt_any (hb db cb kb W h : Nat) (ds : List Int) (ws : List Nat) (s y : Nat) (w : World) (H : Held w hb db cb W h ds ws) (F : Fits W h ds ws) (hy : y < h) (hs : s ≤ y)
    (C : Cur w kb hb ((s : Int) - 1) (pre ds s)) (h0 : kb ≠ 0) (h1 : kb ≠ hb) (h2 : kb ≠ db) (h3 : kb ≠ cb) :
    Calls Ybad.prog 6 #[.pointer (some ⟨kb, 0, none⟩), .int .i64 y] w fun e w' => e = .returned (.int .i64 (pre ds (y + 1))) ∧ w.grownBy w' (some kb) ∧ Cur w' kb hb y (pre ds (y + 1)) := by
  have hhe := H.height
  have hch := H.changing
  have hde := H.delta
  have hh := F.hh
  have hws := F.hws
  have HWS : Hid _ := hws
  have hl : ws.length ≤ 100 := by omega
  have hl2 : h ≤ 64 * ws.length := by omega
  clear hws
  obtain ⟨c0, c1, c2, f1, f2⟩ := C
  go_enter Ybad.func6, Ybad.ntmps6
  go_wp2_with fail
  go_quiet ((go_at_call 8; exact Calls.quiet_of_same (next_any cb ws s (y + 1) _ (H.drewN _).tab F.hwd (H.drewN _).wcells hl (by omega) (by omega))))
  go_wp2_with fail
  go_loopw [6] (fun r wr => ∃ k : Nat, r = .int .i64 k ∧ s ≤ k ∧ k ≤ y + 1 ∧ w.grownBy wr (some kb) ∧ Cur wr kb hb ((s : Int) - 1) (pre ds k)) (fun r _ => y + 1 - (intOf r).toNat)
  case atStart =>
    obtain ⟨n1, n2, n3⟩ := nxt_flat F s (y + 1) (by omega) (by omega)
    exact ⟨_, rfl, n1, n2, gb_drewN (gb_refl _ _) _, by rw [n3]; exact ⟨c0, c1, c2, f1, f2⟩⟩
  case round =>
    obtain ⟨k, rfl, hk1, hk2, hg, ⟨d0, d1, d2, e1, e2⟩⟩ := hrel
    have H' := H.grown hg h0 h1 h2 h3
    clear c0 c1 c2 f1 f2 hhe hch hde
    have hhe := H'.height
    have hch := H'.changing
    have hde := H'.delta
    by_cases hky : k ≤ y
    · have hdc := H'.dcells k (by omega)
      have hp := pre_bd ds F.hd k (by have := F.hlen; omega)
      have hdd := F.hd k
      go_wp2_with fail
      go_region
      go_wp2_with fail
      refine (next_any cb ws (k + 1) (y + 1) _ ?_ F.hwd ?_ hl (by omega) (by omega)).mono ?_
      · exact (H'.grown (gb_set (gb_refl _ _) _ _) h0 h1 h2 h3).tab
      · exact (H'.grown (gb_set (gb_refl _ _) _ _) h0 h1 h2 h3).wcells
      rintro e w' ⟨rfl, rfl⟩
      go_wp2_with fail
      go_roundw
      case rel =>
        obtain ⟨n1, n2, n3⟩ := nxt_flat F (k + 1) (y + 1) (by omega) (by omega)
        refine ⟨_, rfl, by omega, n2, ?_, ?_⟩
        · exact gb_drewN (gb_set hg _ _) 1
        · rw [n3, ← pre_wrap F k (by omega)]
          exact Cur.drewN (Cur.setUsed (⟨d0, d1, d2, e1, e2⟩ : Cur wr kb hb _ _) _) 1
      case measure =>
        obtain ⟨n1, n2, n3⟩ := nxt_flat F (k + 1) (y + 1) (by omega) (by omega)
        simp [intOf]; omega
    · have hkk : k = y + 1 := by omega
      subst hkk
      go_wp2_with fail
      go_ret
      exact ⟨rfl, gb_set hg _ _, Cur.setRow (⟨d0, d1, d2, e1, e2⟩ : Cur wr kb hb _ _) _⟩
end Go.Proofs.YbulksdcDoor
