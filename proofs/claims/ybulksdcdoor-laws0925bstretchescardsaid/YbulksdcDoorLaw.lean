import Derived.Test.YbulksdcDoorFree
import Derived.Test.YbulksdcDoorWords
import Derived.Deep.OwnRows
import Derived.Deep.DeepMust
namespace Go.Proofs.YbulksdcDoor
open Go.RowKit

theorem info80 : (Ybad.prog.info? 80).map (fun i => (i.zero.isSome, decide (i.bytes ≤ 1000))) = some (true, true) := by kernel_rfl
theorem info3 : (Ybad.prog.info? 3).map (fun i => (i.zero, i.size, i.bytes)) = some (some (.int .i64 0), 1, 8) := by kernel_rfl
theorem info44 : (Ybad.prog.info? 44).map (fun i => (i.zero, i.size, i.bytes)) = some (some (.int .u64 0), 1, 8) := by kernel_rfl

theorem make80 (n : Nat) (hn : n ≤ 1024) : ∃ X, ∀ w, (Instr.makeSlice 25 (.int .i64 (n : Int)) (.int .i64 (n : Int))).run Ybad.prog w = .ok (.slice (some ⟨w.heap.size, 0, none⟩) n n) (w.alloc (.cells X 80)) := by
  obtain ⟨i, hi, h2⟩ := Option.map_eq_some_iff.1 info80
  simp only [Prod.mk.injEq, decide_eq_true_eq] at h2
  obtain ⟨z, hz⟩ := Option.isSome_iff_exists.1 h2.1
  refine ⟨madeCells z.cells (n * i.size), fun w => ?_⟩
  have hb : i.bytes * n ≤ 1000 * 1024 := Nat.mul_le_mul h2.2 hn
  have hb' : (i.bytes : Int) * (n : Int) ≤ 281474976710656 := by
    have h : ((i.bytes * n : Nat) : Int) ≤ 281474976710656 := by omega
    rwa [Int.natCast_mul] at h
  have hr := run_make (P := Ybad.prog) w 25 80 i z Ybad.underlying25 hi hz .i64 .i64 n n (by omega) (Int.le_refl _) hb' (by omega)
  simp only [Int.toNat_natCast] at hr
  exact hr

/-- The mesh as far as it is built, behind y rounds. -/
structure Built (w wr : World) (B a0 h : Nat) (zs : List Int) (y : Nat) : Prop where
  below : Below B w wr
  size : wr.heap.size = B + 4
  c0 : wr.cell? ⟨B, 0, none⟩ = some (.int .i64 a0)
  c1 : wr.cell? ⟨B, 1, none⟩ = some (.int .i64 h)
  c3 : wr.cell? ⟨B, 3, none⟩ = some (.slice (some ⟨B + 2, 0, none⟩) h h)
  c8 : wr.cell? ⟨B, 8, none⟩ = some (.slice (some ⟨B + 3, 0, none⟩) (h / 64 + 1) (h / 64 + 1))
  own3 : wr.ownsRow (B + 2) 3 1 (.slice (some ⟨B + 2, 0, none⟩) h h) h ((dl zs h y).map (.int .i64))
  own44 : wr.ownsRow (B + 2) 44 1 (.slice (some ⟨B + 3, 0, none⟩) (h / 64 + 1) (h / 64 + 1)) (h / 64 + 1) ((wsAt zs (h / 64 + 1) y).map (fun n : Nat => .int .u64 (n : Int)))

theorem own_other {w : World} {base : Nat} {e : TypeId} {size : Nat} {v : Value} {n : Nat} {xs : List Value} (h : w.ownsRow base e size v n xs) (b i : Nat) (ha : v.ownBlock ≠ some b) (u : Value) : (w.setCell ⟨b, i, none⟩ u).ownsRow base e size v n xs :=
  h.kept (gb_set (gb_refl w (some b)) i u) (.inr ha)

theorem Built.set3 {w wr : World} {B a0 h : Nat} {zs : List Int} {y : Nat} (hB : Built w wr B a0 h zs y) (hz : zs.length = h) (hy : y < h) (d : Int) (hd : d = zs.getD y 0) (h0 : (d != 0) = false) :
    Built w (wr.setCell ⟨B + 2, y, none⟩ (.int .i64 d)) B a0 h zs (y + 1) := by
  have e : ∀ i, (wr.setCell ⟨B + 2, y, none⟩ (.int .i64 d)).cell? ⟨B, i, none⟩ = wr.cell? ⟨B, i, none⟩ := fun i => World.cell?_setCell_other _ _ _ _ (by simp)
  refine ⟨hB.below.setCell (by simp) _, by simpa using hB.size, (e 0).trans hB.c0, (e 1).trans hB.c1, (e 3).trans hB.c3, (e 8).trans hB.c8, ?_, ?_⟩
  · rw [← dl_succ zs h y hz hy, List.map_set, ← hd]
    exact (hB.own3.stored y _).1
  · have hw : wsAt zs (h / 64 + 1) (y + 1) = wsAt zs (h / 64 + 1) y := by
      rw [wsAt, if_neg (by rw [← hd]; simpa using h0)]
    rw [hw]
    exact own_other hB.own44 _ _ (by simp [Value.ownBlock]) _

theorem Built.set44 {w wr : World} {B a0 h : Nat} {zs : List Int} {y : Nat} (hB : Built w wr B a0 h zs y) (hz : zs.length = h) (hy : y < h) (d : Int) (hd : d = zs.getD y 0) (h0 : (d != 0) = true)
    (V : Nat) (hV : V = (wsAt zs (h / 64 + 1) y).getD (y / 64) 0) :
    Built w ((wr.setCell ⟨B + 2, y, none⟩ (.int .i64 d)).setCell ⟨B + 3, y / 64, none⟩ (.int .u64 (bits BinOp.or IntKind.u64 (V : Int) (IntKind.u64.wrap (2 ^ (y % 64)))))) B a0 h zs (y + 1) := by
  have hVl : V < 18446744073709551616 := by rw [hV]; exact wsAt_lt zs _ y (by omega) _
  have hp : 2 ^ (y % 64) < 18446744073709551616 := Nat.pow_lt_pow_right (a := 2) (m := y % 64) (n := 64) (by decide) (Nat.mod_lt _ (by decide))
  have hpw : IntKind.u64.wrap (2 ^ (y % 64)) = ((2 ^ (y % 64) : Nat) : Int) := by
    have e : ((2 : Int) ^ (y % 64)) = ((2 ^ (y % 64) : Nat) : Int) := by simp
    rw [e, IntKind.wrap_u64]
    generalize 2 ^ (y % 64) = q at *
    omega
  rw [hpw, bits_or_u64_nat V _ hVl hp]
  have e : ∀ (v u : Value) i, ((wr.setCell ⟨B + 2, y, none⟩ v).setCell ⟨B + 3, y / 64, none⟩ u).cell? ⟨B, i, none⟩ = wr.cell? ⟨B, i, none⟩ := fun v u i =>
    (World.cell?_setCell_other _ _ _ _ (by simp)).trans (World.cell?_setCell_other _ _ _ _ (by simp))
  refine ⟨(hB.below.setCell (by simp) _).setCell (by simp) _, by simpa using hB.size, (e _ _ 0).trans hB.c0, (e _ _ 1).trans hB.c1, (e _ _ 3).trans hB.c3, (e _ _ 8).trans hB.c8, ?_, ?_⟩
  · rw [← dl_succ zs h y hz hy, List.map_set, ← hd]
    exact own_other (hB.own3.stored y _).1 _ _ (by simp [Value.ownBlock]) _
  · have hw : wsAt zs (h / 64 + 1) (y + 1) = (wsAt zs (h / 64 + 1) y).set (y / 64) (V ||| 2 ^ (y % 64)) := by
      rw [wsAt, if_pos (by rw [← hd]; simpa using h0), hV]
    rw [hw, List.map_set]
    exact ((own_other hB.own44 _ _ (by simp [Value.ownBlock]) _).stored (y / 64) _).1

theorem Built.start (w : World) (a0 h : Nat) (zs : List Int) (X : Array Value) (cs : Array Value) (hh : h ≤ 1024)
    (k0 : cs[0]? = some (.int .i64 a0)) (k1 : cs[1]? = some (.int .i64 h)) (k3 : cs[3]? = some (.slice (some ⟨w.heap.size + 2, 0, none⟩) h h)) (k8 : cs[8]? = some (.slice (some ⟨w.heap.size + 3, 0, none⟩) (h / 64 + 1) (h / 64 + 1))) :
    Built w ((((w.alloc (.cells cs 42)).alloc (.cells X 80)).alloc (.cells (madeCells #[.int .i64 0] h) 3)).alloc (.cells (madeCells #[.int .u64 0] (h / 64 + 1)) 44)) w.heap.size a0 h zs 0 := by
  have e : ∀ i, ((((w.alloc (.cells cs 42)).alloc (.cells X 80)).alloc (.cells (madeCells #[.int .i64 0] h) 3)).alloc (.cells (madeCells #[.int .u64 0] (h / 64 + 1)) 44)).cell? ⟨w.heap.size, i, none⟩ = cs[i]? := by
    intro i
    rw [World.cell?_alloc_lt _ _ _ (by simp; omega), World.cell?_alloc_lt _ _ _ (by simp; omega), World.cell?_alloc_lt _ _ _ (by simp)]
    simp [go_sem]
  refine ⟨((((Below.refl _ _).alloc (Nat.le_refl _) _).alloc (by simp) _).alloc (by simp; omega) _).alloc (by simp; omega) _, by simp, (e 0).trans k0, (e 1).trans k1, (e 3).trans k3, (e 8).trans k8, ?_, ?_⟩
  · have h1 := World.ownsRow_lit (base := w.heap.size + 2) (e := 3) (size := 1) ((w.alloc (.cells cs 42)).alloc (.cells X 80)) (madeCells #[.int .i64 0] h) h (by simp) (by unfold maxLen; omega) (by simp [size_madeCells])
    rw [toList_madeCells_one] at h1
    rw [dl_zero, List.map_replicate]
    have h2 := h1.alloc (.cells (madeCells #[.int .u64 0] (h / 64 + 1)) 44)
    simpa using h2
  · have h1 := World.ownsRow_lit (base := w.heap.size + 2) (e := 44) (size := 1) (((w.alloc (.cells cs 42)).alloc (.cells X 80)).alloc (.cells (madeCells #[.int .i64 0] h) 3)) (madeCells #[.int .u64 0] (h / 64 + 1)) (h / 64 + 1) (by simp) (by unfold maxLen; omega) (by simp [size_madeCells])
    rw [toList_madeCells_one] at h1
    rw [wsAt, List.map_replicate]
    simpa using h1

theorem Built.done {w wr : World} {a0 h : Nat} {zs : List Int} (hB : Built w wr w.heap.size a0 h zs h) (ha : a0 ≤ 65535) (hh : h ≤ 1024) (hz : zs.length = h) (hb : ∀ i, -128 ≤ zs.getD i 0 ∧ zs.getD i 0 ≤ 127) (hT : TabAt 0 Lib.deBruijn64tab w) :
    Held wr w.heap.size (w.heap.size + 2) (w.heap.size + 3) a0 h zs (wsAt zs (h / 64 + 1) h) ∧ Fits a0 h zs (wsAt zs (h / 64 + 1) h) := by
  have hl := wsAt_len zs (h / 64 + 1) h
  have h0 : 0 < w.heap.size := World.block_lt_of_cell? _ _ (hT 0 (by decide))
  refine ⟨⟨fun j hj => (hB.below.cell (by exact h0)).trans (hT j hj), hB.c0, hB.c1, hB.c3, by rw [hl]; exact hB.c8, fun i hi => ?_, fun i hi => ?_⟩, ⟨hh, ha, hz, hb, hl, fun x hx => ?_, fun r hr => ?_⟩⟩
  · rw [hB.own3.cellAt i (by omega), dl_full zs h hz, List.getElem?_map, List.getElem?_eq_getElem (by omega), List.getD_eq_getElem?_getD, List.getElem?_eq_getElem (by omega)]
    rfl
  · rw [hB.own44.cellAt i (by omega), List.getElem?_map, List.getElem?_eq_getElem hi, List.getD_eq_getElem?_getD, List.getElem?_eq_getElem hi]
    rfl
  · obtain ⟨j, hj, rfl⟩ := List.getElem_of_mem hx
    have := wsAt_lt zs (h / 64 + 1) h (by omega) j
    rw [List.getD_eq_getElem?_getD, List.getElem?_eq_getElem hj] at this
    exact this
  · rw [wsAt_bit zs _ h (by omega) r]
    simp [hr]

theorem wl_len (ds : List Int) (W : Int) (y : Nat) : (wl ds W y).length ≤ y := by
  by_cases h : y = 0
  · subst h; rw [wl_zero]; simp
  · obtain ⟨L, t, f, e, _, hl⟩ := wl_form ds W y (by omega)
    rw [e]; simp; omega

theorem own_pos {w : World} {base : Nat} {e : TypeId} {size : Nat} {v : Value} {n : Nat} {xs : List Value} (h : w.ownsRow base e size v n xs) (hn : 0 < n) : ∃ g cap, v = .slice (some ⟨g, 0, none⟩) n cap := by
  rcases h.2 with ⟨_, h2⟩ | ⟨g, cap, _, hv, _⟩
  · omega
  · exact ⟨g, cap, hv⟩

theorem own_form {w : World} {base : Nat} {e : TypeId} {size : Nat} {v : Value} {n : Nat} {xs : List Value} (h : w.ownsRow base e size v n xs) : ∃ ao cap, v = .slice ao n cap := by
  rcases h.2 with ⟨h1, h2⟩ | ⟨g, cap, _, hv, _⟩
  · subst h2; exact ⟨_, _, h1⟩
  · exact ⟨_, _, hv⟩

theorem cells3_at (L : List (Int × Int × Int)) (t b f : Int) : (cells3 (L ++ [(t, b, f)]))[L.length * 3 + 1]? = some (.int .i64 b) := by
  rw [cells3_append, List.getElem?_append_right (by rw [cells3_length]; omega), cells3_length]
  simp [cells3, show L.length * 3 + 1 - L.length * 3 = 1 by omega]

theorem cells3_set (L : List (Int × Int × Int)) (t b b' f : Int) : (cells3 (L ++ [(t, b, f)])).set (L.length * 3 + 1) (.int .i64 b') = cells3 (L ++ [(t, b', f)]) := by
  rw [cells3_append, cells3_append, List.set_append_right _ _ (by rw [cells3_length]; omega), cells3_length, show L.length * 3 + 1 - L.length * 3 = 1 by omega]
  rfl

theorem cell_three_at (w : World) (t : TypeId) (a b c : Value) (n : Nat) (hn : n = w.heap.size) : ∀ (j : Nat) (u : Value), [a, b, c][j]? = some u → (w.alloc (.cells #[a, b, c] t)).cell? ((⟨n, 0, none⟩ : Addr).add j) = some u := by
  subst hn; exact cell_three_new w t a b c

theorem own_below {w w' : World} {base : Nat} {e : TypeId} {size : Nat} {v : Value} {n : Nat} {xs : List Value} (h : w.ownsRow base e size v n xs) (hb : Below w.heap.size w w') : w'.ownsRow base e size v n xs := by
  have g : w.grownBy w' none := ⟨hb.os, hb.tape, hb.output, hb.size, fun k hk _ => hb.block k hk⟩
  refine h.kept g ?_
  cases v.ownBlock with
  | none => exact .inl rfl
  | some a => exact .inr (by simp)

/-- The three cells of stretch i. -/
theorem cells3_three (R : List (Int × Int × Int)) (i : Nat) (hi : i < R.length) : ∃ a b c, (cells3 R)[i * 3]? = some (.int .i64 a) ∧ (cells3 R)[i * 3 + 1]? = some (.int .i64 b) ∧ (cells3 R)[i * 3 + 2]? = some (.int .i64 c) := by
  induction R generalizing i with
  | nil => simp at hi
  | cons x R ih =>
    obtain ⟨a, b, c⟩ := x
    cases i with
    | zero => exact ⟨a, b, c, rfl, rfl, rfl⟩
    | succ i =>
      obtain ⟨a', b', c', h1, h2, h3⟩ := ih i (by simpa using hi)
      refine ⟨a', b', c', ?_, ?_, ?_⟩
      · rw [show (i + 1) * 3 = i * 3 + 1 + 1 + 1 by omega]; simpa [cells3] using h1
      · rw [show (i + 1) * 3 + 1 = i * 3 + 1 + 1 + 1 + 1 by omega]; simpa [cells3] using h2
      · rw [show (i + 1) * 3 + 2 = i * 3 + 2 + 1 + 1 + 1 by omega]; simpa [cells3] using h3

theorem gb_below {w w' : World} (h : Below w.heap.size w w') : w.grownBy w' none := ⟨h.os, h.tape, h.output, h.size, fun k hk _ => h.block k hk⟩

set_option maxRecDepth 20000 in
set_option maxHeartbeats 4000000 in
theorem law_some (a0 : Nat) (ao : Option Addr) (h cap : Nat) (zs : List Int) (w : World) (ha : a0 ≤ 65535) (hT : TabAt 0 Lib.deBruijn64tab w) (hh : h ≤ 1024) (hz : zs.length = h)
    (hc : ∀ k, k < h → ∃ b off, ao = some ⟨b, off, none⟩ ∧ w.cell? ⟨b, off + k, none⟩ = some (.int .i8 (zs.getD k 0))) (hb : ∀ i, -128 ≤ zs.getD i 0 ∧ zs.getD i 0 ≤ 127) :
    Calls Ybad.prog 3 #[.int .u16 a0, .slice ao h cap] w fun e w' => e = .returned (.bool true) ∧ Below w.heap.size w w' := by
  obtain ⟨i0, hi, hz0, hz1, hz2⟩ := info_parts info49
  obtain ⟨X, hm80⟩ := make80 h hh
  have hm3 := run_make_row' (P := Ybad.prog) 26 3 _ 8 Ybad.underlying26 info3 rfl .i64 .i64 h (by omega) (by omega)
  have hm44 := run_make_row' (P := Ybad.prog) 29 44 _ 8 Ybad.underlying29 info44 rfl .i64 .i64 (h / 64 + 1) (by omega) (by omega)
  rw [show ((h / 64 + 1 : Nat) : Int) = (h : Int) / 64 + 1 by omega] at hm44
  go_enter Ybad.func3, Ybad.ntmps3
  go_wp2_with fail
  go_loopw [8] (fun t wr => ∃ y : Nat, t = .int .i64 y ∧ y ≤ h ∧ Built w wr w.heap.size a0 h zs y) (fun t _ => h - (intOf t).toNat)
  case atStart =>
    exact ⟨0, rfl, by omega, Built.start w a0 h zs X _ hh rfl rfl rfl rfl⟩
  case round =>
    obtain ⟨y, rfl, hy, hB⟩ := hrel
    by_cases hlt : y < h
    · obtain ⟨b, off, rfl, hcy⟩ := hc y hlt
      have hblt : b < w.heap.size := World.block_lt_of_cell? _ _ hcy
      have hcy' := (hB.below.cell (p := ⟨b, off + y, none⟩) hblt).trans hcy
      have hbd := hb y
      obtain ⟨d, hd⟩ : ∃ d, d = zs.getD y 0 := ⟨_, rfl⟩
      rw [← hd] at hcy' hbd
      have HD : Hid (d = zs.getD y 0) := hd
      have e3 := hB.c3
      have e8 := hB.c8
      have hv3 : ∃ u, wr.cell? ⟨w.heap.size + 2, y, none⟩ = some u := ⟨_, (hB.own3.cellAt y (by omega)).trans (List.getElem?_eq_getElem (by simp [dl_len zs h y hz hy]; exact hlt))⟩
      obtain ⟨u3, hv3⟩ := hv3
      have f3 := hB.own3.frozenAt y
      have hv44 := hB.own44.cellAt (y / 64) (by omega)
      obtain ⟨V, hV⟩ : ∃ V, V = (wsAt zs (h / 64 + 1) y).getD (y / 64) 0 := ⟨_, rfl⟩
      rw [List.getElem?_map, List.getElem?_eq_getElem (by rw [wsAt_len]; omega), show (wsAt zs (h / 64 + 1) y)[y / 64]'(by rw [wsAt_len]; omega) = V by rw [hV, List.getD_eq_getElem?_getD, List.getElem?_eq_getElem (by rw [wsAt_len]; omega)]; rfl] at hv44
      have hVl : V < 18446744073709551616 := by rw [hV]; exact wsAt_lt zs _ y (by omega) _
      have HV : Hid _ := hV
      have f44 := hB.own44.frozenAt (y / 64)
      simp only [Option.map_some] at hv44
      clear hd hcy hV
      by_cases hd0 : (d != 0) = true
      · clear hm80 hm3 hm44
        go_wp2_with fail
        go_roundw
        case rel => exact ⟨y + 1, by go_num, by omega, hB.set44 hz hlt d HD.out hd0 V HV.out⟩
        case measure => simp [intOf]; omega
      · have hd1 : (d != 0) = false := by simpa using hd0
        clear hm80 hm3 hm44 hd0
        go_wp2_with fail
        go_roundw
        case rel => exact ⟨y + 1, by go_num, by omega, hB.set3 hz hlt d HD.out hd1⟩
        case measure => simp [intOf]; omega
    · have hyh : h = y := by omega
      subst hyh
      clear hm80 hm3 hm44
      obtain ⟨H, F⟩ := hB.done ha hh hz hb hT
      go_wp2_with fail
      refine (freeStretches_any w.heap.size (w.heap.size + 2) (w.heap.size + 3) a0 h zs (wsAt zs (h / 64 + 1) h) wr H F (by have := hB.size; omega) (by have := hB.size; omega) (by have := hB.size; omega) (by have := hB.size; omega)).mono ?_
      rintro e w1 ⟨v, rfl, hG, hb1⟩
      go_wp2_with fail
      go_loopw [11, 12, 13] (fun v2 us t wq => ∃ y : Nat, t = .int .i64 y ∧ y ≤ h ∧ us = .int .i64 (pre zs y) ∧ wq.ownsRow w1.heap.size 49 3 v2 (wl zs a0 y).length (cells3 (wl zs a0 y)) ∧ Below w1.heap.size w1 wq) (fun _ _ t _ => h - (intOf t).toNat)
      case atStart =>
        exact ⟨0, rfl, by omega, rfl, World.ownsRow_nil _ _ _ _, Below.refl _ _⟩
      case round =>
        obtain ⟨y, rfl, hy, rfl, hown, hbq⟩ := hrel
        by_cases hlt : y < h
        · obtain ⟨b, off, rfl, hcy⟩ := hc y hlt
          have hblt : b < w.heap.size := World.block_lt_of_cell? _ _ hcy
          have hcy' := (((hB.below.trans (hb1.mono (by have := hB.size; omega))).trans (hbq.mono (by have := hb1.size; have := hB.size; omega))).cell (p := ⟨b, off + y, none⟩) hblt).trans hcy
          have hbd := hb y
          have hpb := pre_bd zs hb y (by omega)
          have hps : Hid _ := pre_succ zs y (by omega)
          obtain ⟨d, hd⟩ : ∃ d, d = zs.getD y 0 := ⟨_, rfl⟩
          rw [← hd] at hcy' hbd hps
          have HD : Hid (d = zs.getD y 0) := hd
          clear hd hcy
          have hl2 := wl_len zs a0 y
          by_cases hy0 : y = 0
          · have hyt : ((y : Int) == 0) = true := by simp [hy0]
            rw [show wl zs a0 y = [] by rw [hy0]; rfl] at hown
            replace hown : World.ownsRow _ w1.heap.size 49 3 _ 0 [] := hown
            have hne : Hid (∀ k, Value.ownBlock _ = some k → w1.heap.size ≤ k) := fun k e => (hown.lt k e).1
            obtain ⟨ao2, cp, rfl⟩ := own_form hown
            have HY : Hid (y = 0) := hy0
            clear hy0
            go_wp2_with (at_builtin; refine wpList_append_own _ rfl (.tmp 109) (.tmp 116) 46 rfl w1.heap.size 49 i0 _ 3 24 Ybad.underlying46 hi hz0 hz1 hz2 rfl (by decide) _ _ _ rfl (World.ownsRow.alloc hown _) _ 1 1 _ rfl rfl (cell_three_new _ _ _ _ _) (one_three _ _ _) (by unfold maxLen; omega) (by omega) (by have := hbq.size; simp; omega) ?_; intro v3 w3 hown3 hg3 _)
            go_roundw
            case rel =>
              refine ⟨y + 1, by go_num, by omega, by rw [hps.out], ?_, ?_⟩
              · rw [wl_start zs a0 y (.inl HY.out), show res zs a0 y = [] by rw [HY.out]; rfl, hps.out]
                exact hown3
              · exact (hbq.alloc hbq.size _).grown hg3 (by have := hbq.size; simp; omega) hne.out
            case measure => simp [intOf]; omega
          · obtain ⟨L, t, f, hwl, hre, hLl⟩ := wl_form zs a0 y (by omega)
            have hyt : ((y : Int) == 0) = false := by simpa using hy0
            by_cases hd0 : (d != 0) = true
            · rw [hwl, show (L ++ [(t, t, f)]).length = L.length + 1 by simp] at hown
              obtain ⟨g, cp, rfl⟩ := own_pos hown (by simp)
              have hgb : w1.heap.size ≤ g := (hown.lt g rfl).1
              have hcw := hown.cellAt (L.length * 3 + 1) (by omega)
              rw [cells3_at] at hcw
              have hfw := hown.frozenAt (L.length * 3 + 1)
              have hst := hown.stored (L.length * 3 + 1) (.int .i64 ((y : Int) - 1))
              rw [cells3_set, ← hre] at hst
              have HL : Hid (L.length + 1 = (res zs a0 y).length) := by rw [hre]; simp [Hid]
              have HWL : Hid _ := hwl
              have HRE : Hid _ := hre
              clear hwl hre
              have HST : Hid _ := hst
              clear hst
              go_wp2_with (at_builtin; refine wpList_append_own _ rfl (.tmp 109) (.tmp 116) 46 rfl w1.heap.size 49 i0 _ 3 24 Ybad.underlying46 hi hz0 hz1 hz2 rfl (by decide) _ _ _ rfl (World.ownsRow.alloc HST.out.1 _) _ 1 1 _ rfl rfl (cell_three_at _ _ _ _ _ _ (by simp)) (one_three _ _ _) (by unfold maxLen; simp; omega) (by omega) (by have := hbq.size; simp; omega) ?_; intro v3 w3 hown3 hg3 _)
              go_roundw
              case rel =>
                refine ⟨y + 1, by go_num, by omega, by rw [hps.out], ?_, ?_⟩
                · rw [wl_start zs a0 y (.inr (by rw [← HD.out]; simpa using hd0)), cells3_append, List.length_append, hps.out, ← HL.out]
                  exact hown3
                · exact ((hbq.setCell hgb _).alloc (by have := hbq.size; simp; omega) _).grown hg3 (by have := hbq.size; simp; omega) (fun k e => by cases e; exact hgb)
              case measure => simp [intOf]; omega
            · have hd1 : (d != 0) = false := by simpa using hd0
              clear hd0 hwl hre
              go_wp2_with fail
              go_roundw
              case rel =>
                refine ⟨y + 1, by go_num, by omega, by rw [hps.out], ?_, hbq⟩
                rw [wl_flat zs a0 y (by rw [← HD.out]; simp at hd1; simp [hd1]; exact hy0)]
                exact hown
              case measure => simp [intOf]; omega
        · have hyh : h = y := by omega
          subst hyh
          have hG2 := own_below hG hbq
          have hbb : Below w.heap.size w _ := (hB.below.trans (hb1.mono (by have := hB.size; omega))).trans (hbq.mono (by have := hb1.size; have := hB.size; omega))
          have hsz1 : w.heap.size ≤ w1.heap.size := by have := hb1.size; have := hB.size; omega
          clear hb1 H F hB
          by_cases hh0 : h = 0
          · rw [show wl zs a0 h = [] by rw [hh0]; rfl] at hown
            rw [show res zs a0 h = [] by rw [hh0]; rfl] at hG2
            replace hown : World.ownsRow _ w1.heap.size 49 3 _ 0 [] := hown
            replace hG2 : World.ownsRow _ _ 49 3 _ 0 [] := hG2
            obtain ⟨ao2, cp, rfl⟩ := own_form hown
            obtain ⟨ao3, cp3, rfl⟩ := own_form hG2
            clear hG hh0
            go_wp2_with fail
            go_loop [15] (fun t => t = .int .i64 0) (fun _ => 0)
            case atStart => rfl
            case round =>
              subst hrel
              go_wp2_with fail
              go_ret
              exact ⟨rfl, hbb⟩
          · obtain ⟨L, t, f, hwl, hre, hLl⟩ := wl_form zs a0 h (by omega)
            rw [hwl, show (L ++ [(t, t, f)]).length = L.length + 1 by simp] at hown
            obtain ⟨g, cp, rfl⟩ := own_pos hown (by simp)
            have hgb : w1.heap.size ≤ g := (hown.lt g rfl).1
            have hcw := hown.cellAt (L.length * 3 + 1) (by omega)
            rw [cells3_at] at hcw
            have hfw := hown.frozenAt (L.length * 3 + 1)
            have hst := hown.stored (L.length * 3 + 1) (.int .i64 ((h : Int) - 1))
            rw [cells3_set, ← hre] at hst
            rw [hre, show (L ++ [(t, (h : Int) - 1, f)]).length = L.length + 1 by simp, ← hre] at hG2
            obtain ⟨g2, cp2, rfl⟩ := own_pos hG2 (by simp)
            have HL : Hid ((res zs a0 h).length = L.length + 1) := by rw [hre]; simp [Hid]
            have HST : Hid _ := hst
            have HRE : Hid _ := hre
            clear hst hre hwl
            go_wp2_with fail
            have hgg : g2 < w1.heap.size := (hG.lt g2 rfl).2
            have hG3 := own_other hG2 g (L.length * 3 + 1) (by simp [Value.ownBlock]; omega) (.int .i64 ((h : Int) - 1))
            clear hG2 hG hown hcw hfw
            have hLL := st_len zs a0 h
            have hL2 : L.length + 1 ≤ 1024 := by have := HL.out; omega
            go_loopw [15] (fun t wq => ∃ i : Nat, t = .int .i64 i ∧ i ≤ L.length + 1 ∧ ∃ n, wq = (World.setCell _ ⟨g, L.length * 3 + 1, none⟩ (.int .i64 ((h : Int) - 1))).drewN n) (fun t _ => L.length + 1 - (intOf t).toNat)
            case atStart => exact ⟨0, rfl, by omega, 0, rfl⟩
            case round =>
              obtain ⟨i, rfl, hi, n, rfl⟩ := hrel
              by_cases hil : i < L.length + 1
              · obtain ⟨a, b, c, q0, q1, q2⟩ := cells3_three (res zs a0 h) i (by rw [HL.out]; exact hil)
                have r0 := (hG3.cellAt (i * 3) (by omega)).trans q0
                have r1 := (hG3.cellAt (i * 3 + 1) (by omega)).trans q1
                have r2 := (hG3.cellAt (i * 3 + 2) (by omega)).trans q2
                have s0 := (HST.out.1.cellAt (i * 3) (by omega)).trans q0
                have s1 := (HST.out.1.cellAt (i * 3 + 1) (by omega)).trans q1
                have s2 := (HST.out.1.cellAt (i * 3 + 2) (by omega)).trans q2
                clear q0 q1 q2
                go_wp2_with fail
                go_quiet (fail)
                go_wp2_with fail
                go_roundw
                case rel => exact ⟨i + 1, by go_num, by omega, _, rfl⟩
                case measure => simp [intOf]; omega
              · go_wp2_with fail
                go_ret
                exact ⟨rfl, below_drewN (hbb.setCell (by exact Nat.le_trans hsz1 hgb) _) _⟩
end Go.Proofs.YbulksdcDoor
