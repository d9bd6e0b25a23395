import Derived.Test.YbulkseeDigits
import Derived.Laws.BytesArg
import Derived.Deep.Cut
import Derived.WideShapes
import Derived.Deep.DeepMust
namespace Go.Proofs.Ybulksee
open Go.RowKit

theorem info5 : (Yba.prog.info? 5).map (fun i => (i.zero, i.size, i.bytes)) = some (some (.int .u8 0), 1, 1) := by kernel_rfl

/-- The bytes made of the first n numbers. -/
def bufOf (zs : List Int) (n : Nat) : List Int := (zs.take n).map fun d => 48 + d % 10

theorem bufOf_len (zs : List Int) (n : Nat) (h : n ≤ zs.length) : (bufOf zs n).length = n := by simp [bufOf]; omega
theorem bufOf_succ (zs : List Int) (n : Nat) (h : n < zs.length) : bufOf zs (n + 1) = bufOf zs n ++ [48 + zs.getD n 0 % 10] := by
  unfold bufOf
  rw [List.take_succ_eq_append_getElem h, List.map_append, List.getD_eq_getElem?_getD, List.getElem?_eq_getElem h]
  rfl

theorem cell_one_at (w : World) (x : Value) (t : TypeId) (n : Nat) (hn : n = w.heap.size) : ∀ (j : Nat) (u : Value), [x][j]? = some u → (w.alloc (.cells #[x] t)).cell? ((⟨n, 0, none⟩ : Addr).add j) = some u := by
  subst hn
  intro j u hj
  match j, hj with
  | 0, hj => simp at hj; subst hj; simp [Addr.add, go_sem]
  | _ + 1, hj => simp at hj

theorem one_one (k : IntKind) (a : Int) : ∀ u ∈ [Value.int k a], u.oneCell' = true := by
  intro u hu
  simp at hu
  subst hu; rfl

theorem own_at {w : World} {base : Nat} {e : TypeId} {k : IntKind} {g n cap : Nat} {xs : List Int} (h : w.ownsRow base e 1 (.slice (some ⟨g, 0, none⟩) n cap) n (xs.map (.int k))) {i : Nat} (hi : i < n) (hx : i < xs.length) :
    w.cell? ⟨g, 0 + i, none⟩ = some (.int k (xs.getD i 0)) := by
  rw [Nat.zero_add, h.cellAt i (by omega), List.getElem?_map, List.getElem?_eq_getElem hx, List.getD_eq_getElem?_getD, List.getElem?_eq_getElem hx]
  rfl

theorem digs_buf (zs : List Int) (n : Nat) (hn : n ≤ zs.length) : digs (strOfNums (bufOf zs n)).data.toList = decide ((0 : Int) < (n : Int)) := by
  rw [strOfNums_data]
  unfold digs
  have ha : (((bufOf zs n).map fun m => UInt8.ofNat m.toNat).all dg) = true := by
    rw [List.all_eq_true]
    intro c hc
    obtain ⟨m, hm, rfl⟩ := List.mem_map.1 hc
    obtain ⟨d, hd, rfl⟩ := List.mem_map.1 hm
    rw [dg_iff]
    have : (UInt8.ofNat (48 + d % 10).toNat).toNat = (48 + d % 10).toNat := by
      rw [UInt8.toNat_ofNat']; omega
    omega
  rw [ha, Bool.and_true]
  have hl := bufOf_len zs n hn
  cases hx : bufOf zs n with
  | nil => rw [hx] at hl; simp at hl; simp; omega
  | cons a l => rw [hx] at hl; simp at hl; simp; omega

/-- The byte that is inserted: no digit. -/
theorem nd_at (r : Nat) (hr : r < 11) : ∃ c : Int, 0 ≤ c ∧ c ≤ 255 ∧ ¬ (48 ≤ c ∧ c ≤ 57) ∧
    ∀ w, (Instr.index 9 (.string { data := #[47, 58, 97, 46, 45, 101, 69, 32, 43, 0, 255] }) (.int .i64 (r : Int))).run Yba.prog w = .ok (.int .u8 c) w := by
  match r, hr with
  | 0, _ => exact ⟨47, by omega, by omega, by omega, fun _ => by kernel_rfl⟩
  | 1, _ => exact ⟨58, by omega, by omega, by omega, fun _ => by kernel_rfl⟩
  | 2, _ => exact ⟨97, by omega, by omega, by omega, fun _ => by kernel_rfl⟩
  | 3, _ => exact ⟨46, by omega, by omega, by omega, fun _ => by kernel_rfl⟩
  | 4, _ => exact ⟨45, by omega, by omega, by omega, fun _ => by kernel_rfl⟩
  | 5, _ => exact ⟨101, by omega, by omega, by omega, fun _ => by kernel_rfl⟩
  | 6, _ => exact ⟨69, by omega, by omega, by omega, fun _ => by kernel_rfl⟩
  | 7, _ => exact ⟨32, by omega, by omega, by omega, fun _ => by kernel_rfl⟩
  | 8, _ => exact ⟨43, by omega, by omega, by omega, fun _ => by kernel_rfl⟩
  | 9, _ => exact ⟨0, by omega, by omega, by omega, fun _ => by kernel_rfl⟩
  | 10, _ => exact ⟨255, by omega, by omega, by omega, fun _ => by kernel_rfl⟩
  | _ + 11, h => omega

theorem own_take {w : World} {base : Nat} {e : TypeId} {k : IntKind} {g n cap : Nat} {xs : List Int} (h : w.ownsRow base e 1 (.slice (some ⟨g, 0, none⟩) n cap) n (xs.map (.int k))) (q : Nat) (hq : q ≤ n) :
    ∀ (j : Nat) (u : Value), ((xs.take q).map (Value.int k))[j]? = some u → w.cell? ((⟨g, 0, none⟩ : Addr).add j) = some u := by
  intro j u hj
  rw [List.getElem?_map, List.getElem?_take] at hj
  split at hj
  · rename_i hlt
    rw [WideShapes.add_plain, Nat.zero_add, h.cellAt j (by omega), List.getElem?_map]
    exact hj
  · simp at hj

theorem own_drop {w : World} {base : Nat} {e : TypeId} {k : IntKind} {g n cap : Nat} {xs : List Int} (h : w.ownsRow base e 1 (.slice (some ⟨g, 0, none⟩) n cap) n (xs.map (.int k))) (q : Nat) :
    ∀ (j : Nat) (u : Value), ((xs.drop q).map (Value.int k))[j]? = some u → w.cell? ((⟨g, q, none⟩ : Addr).add j) = some u := by
  intro j u hj
  have hl := h.1
  rw [List.length_map, Nat.mul_one] at hl
  have hjl : q + j < n := by
    rw [List.getElem?_map, List.getElem?_drop] at hj
    apply Nat.lt_of_not_le
    intro hge
    rw [List.getElem?_eq_none (by omega)] at hj
    simp at hj
  rw [List.getElem?_map, List.getElem?_drop] at hj
  rw [WideShapes.add_plain, h.cellAt (q + j) (by omega), List.getElem?_map]
  exact hj

theorem digs_no (xs : List Int) (c : Int) (hc : c ∈ xs) (h0 : 0 ≤ c) (h1 : c ≤ 255) (hd : ¬ (48 ≤ c ∧ c ≤ 57)) : digs (strOfNums xs).data.toList = false := by
  rw [strOfNums_data]
  unfold digs
  have : ((xs.map fun n => UInt8.ofNat n.toNat).all dg) = false := by
    rw [List.all_eq_false]
    refine ⟨UInt8.ofNat c.toNat, List.mem_map_of_mem hc, ?_⟩
    rw [dg_iff]
    have : (UInt8.ofNat c.toNat).toNat = c.toNat := by rw [UInt8.toNat_ofNat']; omega
    omega
  rw [this, Bool.and_false]

theorem make5 (n : Nat) (hn : n ≤ 2000) : ∀ w, (Instr.makeSlice 24 (.int .i64 0) (.int .i64 ((n : Int) + 1))).run Yba.prog w = .ok (.slice (some ⟨w.heap.size, 0, none⟩) 0 (n + 1)) (w.alloc (.cells (madeCells #[.int .u8 0] (n + 1)) 5)) := by
  intro w
  obtain ⟨i, hi, hz0, hz1, hz2⟩ := info_parts info5
  have hr := run_make (P := Yba.prog) w 24 5 i _ Yba.underlying24 hi hz0 .i64 .i64 0 ((n : Int) + 1) (by omega) (by omega) (by rw [hz2]; omega) (by omega)
  rw [hz1] at hr
  have e : ((n : Int) + 1).toNat = n + 1 := by omega
  rw [e, Nat.mul_one] at hr
  exact hr

set_option maxRecDepth 20000 in
set_option maxHeartbeats 2000000 in
theorem built_core (ao : Option Addr) (h cap : Nat) (zs : List Int) (p bad : Nat) (ins : Bool) (w : World) (hp : p ≤ 65535) (hbad : bad ≤ 255) (hh : h ≤ 1024) (hz : zs.length = h)
    (hc : ∀ k, k < h → ∃ b off, ao = some ⟨b, off, none⟩ ∧ w.cell? ⟨b, off + k, none⟩ = some (.int .u8 (zs.getD k 0))) (hb : ∀ i, 0 ≤ zs.getD i 0 ∧ zs.getD i 0 ≤ 255) :
    Calls Yba.prog 5 #[.slice ao h cap, .int .u16 p, .int .u8 bad, .bool ins] w fun e w' => e = .returned (.bool true) ∧ Below w.heap.size w w' := by
  obtain ⟨i0, hi, hz0, hz1, hz2⟩ := info_parts info5
  have hmk := make5 h (by omega)
  go_enter Yba.func5, Yba.ntmps5
  go_wp2_with fail
  go_loopw [9, 10] (fun v t wr => ∃ k : Nat, t = .int .i64 k ∧ k ≤ h ∧ v = .slice (some ⟨w.heap.size, 0, none⟩) k (h + 1) ∧ wr.ownsRow w.heap.size 5 1 (.slice (some ⟨w.heap.size, 0, none⟩) k (h + 1)) k ((bufOf zs k).map (.int .u8)) ∧ Below w.heap.size w wr) (fun _ t _ => h - (intOf t).toNat)
  case atStart =>
    exact ⟨0, rfl, by omega, rfl, World.ownsRow_made w _ (h + 1) (Nat.le_refl _) (by unfold maxLen; omega) (by simp [size_madeCells]), (Below.refl _ _).alloc (Nat.le_refl _) _⟩
  case round =>
    obtain ⟨k, rfl, hk, rfl, hown, hbel⟩ := hrel
    by_cases hlt : k < h
    · obtain ⟨b, off, rfl, hck⟩ := hc k hlt
      have hblt : b < w.heap.size := World.block_lt_of_cell? _ _ hck
      have hck' := (hbel.cell (p := ⟨b, off + k, none⟩) hblt).trans hck
      have hbd := hb k
      obtain ⟨d, hd⟩ : ∃ d, d = zs.getD k 0 := ⟨_, rfl⟩
      rw [← hd] at hck' hbd
      have HD : Hid (d = zs.getD k 0) := hd
      clear hd hck hmk
      go_wp2_with (at_builtin; refine wpList_append_fits _ rfl (.tmp 27) (.tmp 34) 24 rfl w.heap.size 5 i0 1 Yba.underlying24 hi hz1 w.heap.size k (h + 1) _ rfl (hown.alloc _) ⟨_, 0, none⟩ 1 1 [_] rfl rfl (cell_one_at _ _ _ _ rfl) (one_one _ _) (by omega) ?_; intro w2 hown2 hg2)
      have hx := hown2
      rw [show [Value.int IntKind.u8 (48 + d % 10)] = [48 + d % 10].map (.int .u8) from rfl] at hown2
      go_roundw
      case rel =>
        refine ⟨k + 1, by go_num, by omega, rfl, ?_, ?_⟩
        · rw [bufOf_succ zs k (by omega), List.map_append, ← HD.out]
          exact hown2
        · exact (hbel.alloc hbel.size _).grown hg2 (by have := hbel.size; simp; omega) (fun k e => by cases e; exact Nat.le_refl _)
      case measure => simp [intOf]; omega
    · have hkh : h = k := by omega
      subst hkh
      have hbl := bufOf_len zs h (by omega)
      have hcells : ∀ i, i < h → wr.cell? ⟨w.heap.size, 0 + i, none⟩ = some (.int .u8 ((bufOf zs h).getD i 0)) := fun i hi => own_at hown (by omega) (by omega)
      cases ins
      · have hcv := run_convert_bytes_arg (P := Yba.prog) wr 24 5 Yba.underlying24 Yba.underlying5 w.heap.size 0 h (h + 1) (bufOf zs h) hbl hcells 9 Yba.underlying9
        have hE : Hid _ := digs_buf zs h (by omega)
        go_wp2_with (go_at_call 8; refine (isDigits_any _ _ (by rw [strOfNums_size, hbl]; omega)).mono ?_; rintro e w' ⟨rfl, rfl⟩; rw [hE.out])
        go_ret
        exact ⟨ret_bool (by simp), hbel⟩
      · obtain ⟨q, hq⟩ : ∃ q, q = p % (h + 1) := ⟨_, rfl⟩
        have hq1 : ((p : Int) % ((h : Int) + 1)) = (q : Int) := by rw [hq]; simp
        have hq2 : q ≤ h := by have := Nat.mod_lt p (show 0 < h + 1 by omega); omega
        obtain ⟨r, hr⟩ : ∃ r, r = bad % 11 := ⟨_, rfl⟩
        have hr1 : ((bad : Int) % 11) = (r : Int) := by omega
        have hr2 : r < 11 := by omega
        obtain ⟨c, hc0, hc1, hcd, hix⟩ := nd_at r hr2
        clear hq hr
        have hbB : w.heap.size < wr.heap.size := (hown.lt _ rfl).2
        go_upto_region 11 with fail
        rw [hq1]
        go_upto_region 13 with fail
        have hA := World.ownsRow_made (base := w.heap.size) (e := 5) (size := 1) wr (madeCells #[.int .u8 0] (h + 1)) (h + 1) (by omega) (by unfold maxLen; omega) (by simp [size_madeCells])
        have hO1 := hown.alloc (.cells (madeCells #[.int .u8 0] (h + 1)) 5)
        go_upto_region 14 with (at_builtin; go_must (refine wpList_append_fits _ rfl (.tmp 59) (.tmp 62) 24 rfl w.heap.size 5 i0 1 Yba.underlying24 hi hz1 wr.heap.size 0 (h + 1) [] rfl hA ⟨w.heap.size, 0, none⟩ q (h + 1) (((bufOf zs h).take q).map (.int .u8)) rfl (by simp; omega) (own_take hO1 q (by omega)) (ints_oneCell _ _) (by omega) ?_; intro w2 hA2 hg2))
        simp only [Nat.zero_add, List.nil_append] at hA2
        have hO2 := hO1.kept hg2 (.inr (by simp [Value.ownBlock]; omega))
        have hs2 : wr.heap.size + 1 ≤ w2.heap.size := by have := hg2.size; simpa using this
        have hb2 : Below w.heap.size w w2 := (hbel.alloc hbel.size _).grown hg2 (by simp; omega) (fun k e => by cases e; omega)
        go_upto_region 15 with (at_builtin; go_must (refine wpList_append_fits _ rfl (.tmp 64) (.tmp 66) 24 rfl w.heap.size 5 i0 1 Yba.underlying24 hi hz1 wr.heap.size q (h + 1) _ rfl (hA2.alloc _) ⟨_, 0, none⟩ 1 1 [_] rfl rfl (cell_one_at _ _ _ _ rfl) (one_one _ _) (by omega) ?_; intro w3 hA3 hg3))
        have hO3 := (hO2.alloc (.cells #[.int .u8 c] 5)).kept hg3 (.inr (by simp [Value.ownBlock]; omega))
        have hs3 : w2.heap.size + 1 ≤ w3.heap.size := by have := hg3.size; simpa using this
        have hb3 : Below w.heap.size w w3 := (hb2.alloc (by omega) _).grown hg3 (by simp; omega) (fun k e => by cases e; omega)
        go_upto_region 16 with (at_builtin; go_must (refine wpList_append_fits _ rfl (.tmp 68) (.tmp 71) 24 rfl w.heap.size 5 i0 1 Yba.underlying24 hi hz1 wr.heap.size (q + 1) (h + 1) _ rfl hA3 ⟨w.heap.size, q, none⟩ (h - q) (h + 1 - q) (((bufOf zs h).drop q).map (.int .u8)) rfl (by simp; omega) (own_drop hO3 q) (ints_oneCell _ _) (by omega) ?_; intro w4 hA4 hg4))
        have hb4 : Below w.heap.size w w4 := hb3.grown hg4 (by omega) (fun k e => by cases e; omega)
        obtain ⟨xs, hxs⟩ : ∃ xs : List Int, xs = (bufOf zs h).take q ++ [c] ++ (bufOf zs h).drop q := ⟨_, rfl⟩
        have hxl : xs.length = q + 1 + (h - q) := by rw [hxs]; simp; omega
        have hA5 : w4.ownsRow w.heap.size 5 1 (.slice (some ⟨wr.heap.size, 0, none⟩) (q + 1 + (h - q)) (h + 1)) (q + 1 + (h - q)) (xs.map (.int .u8)) := by
          rw [hxs, List.map_append, List.map_append]; exact hA4
        have hcv := run_convert_bytes_arg (P := Yba.prog) w4 24 5 Yba.underlying24 Yba.underlying5 wr.heap.size 0 (q + 1 + (h - q)) (h + 1) xs hxl (fun i hi => own_at hA5 (by omega) (by omega)) 9 Yba.underlying9
        have hE : Hid _ := digs_no xs c (by rw [hxs]; simp) hc0 hc1 hcd
        clear hxs hA4 hA3 hA2 hA hO1 hO2 hO3 hix hmk hown hcells
        go_wp2_with (go_at_call 8; refine (isDigits_any _ _ (by rw [strOfNums_size, hxl]; omega)).mono ?_; rintro e w' ⟨rfl, rfl⟩; rw [hE.out])
        go_ret
        exact ⟨rfl, hb4⟩
end Go.Proofs.Ybulksee
