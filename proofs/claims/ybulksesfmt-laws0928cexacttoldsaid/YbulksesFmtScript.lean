/- The law Script. -/
import Derived.Test.YbulksesFmtArms
import Derived.Deep.Cut
import Derived.Deep.CutRange
namespace Go.Proofs.YbulksesFmt
open Go.RowKit Go.MuLone Go.Stop

theorem q_name : (⟨#[113]⟩ : ByteArray).toList.isEmpty = false := by kernel_rfl
theorem p_name : (⟨#[112]⟩ : ByteArray).toList.isEmpty = false := by kernel_rfl

theorem start_main {w w2 w3 : World} (n e : Nat) (nm : ByteArray) (M0 : List Int) (o o' o2 : Obj) (hM : w2.ownsRow 0 31 1 (.slice (some ⟨w.heap.size, 0, none⟩) n n) n (M0.map (.int .u64))) (u : U64 M0) (hb2 : Below w.heap.size w w2)
    (hO : w3.ownsRow w2.heap.size 31 1 (.slice (some ⟨w2.heap.size, 0, none⟩) n n) n (M0.map (.int .u64))) (hb3 : Below w2.heap.size w2 w3) :
    Main w ((((w3.alloc o).alloc o').alloc o2).alloc (.cells #[.string nm, .int .i64 e, .int .i32 0, .int .u32 0, .slice (some ⟨w.heap.size, 0, none⟩) n n, .pointer none, .int .i64 0, .int .u64 0] 62)).drew (w3.heap.size + 2 + 1) w2.heap.size e n nm M0 := by
  have h1 := own_lt hM
  have h3 := own_lt (own_mono hO (Nat.zero_le _))
  have h2 := hb2.size
  have h4 := hb3.size
  have hMM : w3.ownsRow 0 31 1 (.slice (some ⟨w.heap.size, 0, none⟩) n n) n (M0.map (.int .u64)) := own_grown hM (gb_below (some w3.heap.size) hb3) (by omega)
  refine ⟨?_, ⟨w.heap.size, n, 0, 0, M0, ?_, by omega, .inl rfl, ?_, by rw [rd, if_pos rfl]⟩, ?_, by omega, by omega, u⟩
  · exact ((((((hb2.trans (hb3.mono h2)).alloc (by omega) _).alloc (by simp; omega) _).alloc (by simp; omega) _).alloc (by simp; omega) _)).drew
  · have := heap_alloc_new (((w3.alloc o).alloc o').alloc o2) (.cells #[.string nm, .int .i64 e, .int .i32 0, .int .u32 0, .slice (some ⟨w.heap.size, 0, none⟩) n n, .pointer none, .int .i64 0, .int .u64 0] 62)
    simp only [World.size_alloc] at this
    exact this
  · exact own_drewN ((((hMM.alloc _).alloc _).alloc _).alloc _) 1
  · exact own_drewN (((((own_mono hO (Nat.zero_le _)).alloc _).alloc _).alloc _).alloc _) 1

theorem start_own (w w2 : World) (n : Nat) (base : List Int) (hl : base.length ≤ n) (ub : U64 base) (hn : n ≤ 1024) (hg : w2.heap[w.heap.size]? = some (.cells (splice (List.replicate n (Value.int .u64 0)) 0 (base.map (.int .u64))).toArray 31 (0, 0))) :
    ∃ M0, w2.ownsRow 0 31 1 (.slice (some ⟨w.heap.size, 0, none⟩) n n) n (M0.map (.int .u64)) ∧ U64 M0 := by
  refine ⟨base ++ List.replicate (n - base.length) 0, ⟨by simp; omega, .inr ⟨w.heap.size, n, _, rfl, Nat.zero_le _, hg, Nat.le_refl _, by unfold maxLen; omega, by simp [splice]; omega, ?_⟩⟩, ?_⟩
  · rw [List.take_of_length_le (by simp [splice]; omega)]
    simp [splice]
  · intro i
    by_cases h : i < base.length
    · have := ub i
      rw [List.getD_eq_getElem?_getD, List.getElem?_append_left h, ← List.getD_eq_getElem?_getD]
      exact this
    · rw [List.getD_eq_getElem?_getD, List.getElem?_append_right (by omega), List.getElem?_replicate]
      split <;> simp

set_option maxRecDepth 20000 in
set_option maxHeartbeats 4000000 in
theorem script_any (F : Interp) (bo oo : Option Addr) (bn bc num m oc : Nat) (base : List Int) (op : Nat → Nat) (ao : Nat → Option Addr) (k c : Nat → Nat) (A : Nat → List Int) (w : World) (sa : Addr) (st : ByteArray) (hF : F.answers w.tape) (S : Sent w sa st)
    (hb : RowAt w bo bn base) (ub : U64 base) (hnum : num ≤ 65535) (hO : OpsAt w oo m op ao k c A) :
    Calls Ybaf.prog 4 #[.slice bo bn bc, .int .u16 num, .slice oo m oc] w fun x w' => x = .returned (.bool true) ∧ Below w.heap.size w w' := by
  go_enter Ybaf.func4, Ybaf.ntmps4
  by_cases h1 : 1024 < bn
  · go_wp2_with fail
    go_ret
    exact ⟨rfl, Below.refl _ _⟩
  by_cases h2 : 256 < m
  · go_wp2_with fail
    go_ret
    exact ⟨rfl, Below.refl _ _⟩
  go_wp2_with fail
  go_loopw [7] (fun t wr => ∃ i : Nat, t = .int .i64 i ∧ i ≤ m ∧ Hid (∀ j, j < i → k j ≤ 1024) ∧ wr = w) (fun t _ => m - (intOf t).toNat)
  case atStart => exact ⟨0, rfl, by omega, fun j hj => by omega, rfl⟩
  case round =>
    obtain ⟨i, rfl, hi, hk, hw⟩ := hrel
    have hw' := hw.symm
    subst hw'
    by_cases hlt : i < m
    · obtain ⟨b, off, rfl, c0, c1, hA, uA, hop⟩ := hO i hlt
      by_cases hki : 1024 < k i
      · go_wp2_with fail
        go_ret
        exact ⟨rfl, Below.refl _ _⟩
      · go_wp2_with fail
        go_roundw
        case rel =>
          refine ⟨i + 1, by go_num, by omega, fun j hj => ?_, trivial⟩
          by_cases hji : j = i
          · subst hji; omega
          · exact hk.out j (by omega)
        case measure => simp [intOf]; omega
    · have hk' : Hid (∀ j, j < m → k j ≤ 1024) := fun j hj => hk.out j (by omega)
      clear hk
      obtain ⟨n, hn1, hn2, hnb, hn0⟩ : ∃ n : Nat, 1 ≤ n ∧ n ≤ 1024 ∧ (bn ≠ 0 → n = bn) ∧ (bn = 0 → n = 1) := by
        by_cases hz : bn = 0
        · exact ⟨1, by omega, by omega, by omega, by omega⟩
        · exact ⟨bn, by omega, by omega, by omega, by omega⟩
      go_upto_if 43 with fail
      go_cut [8] from 19 (fun s8 wx => s8 = .int .i64 n ∧ wx = w)
      case first =>
        by_cases hz : bn = 0
        · have hn3 := hn0 hz
          subst hz hn3
          go_wp2_with fail
          go_meet
          case rel => exact ⟨rfl, rfl⟩
        · have hn3 := hnb hz
          subst hn3
          go_wp2_with fail
          go_meet
          case rel => exact ⟨rfl, rfl⟩
      case rest =>
      obtain ⟨rfl, hwc⟩ := hcut
      have hwc' := hwc.symm
      subst hwc'
      have hm := run_make_row' (P := Ybaf.prog) 22 31 _ 8 Ybaf.underlying22 info31 rfl .i64 .i64 n (by omega) (by omega)
      have hl := hb.1
      have HG : Hid ((w.alloc (.cells (madeCells #[.int .u64 0] n) 31)).heap[w.heap.size]? = some (.cells (List.replicate n (Value.int .u64 0)).toArray 31 (0, 0))) := hideIt (by rw [heap_alloc_new, toArray_made])
      have HS : Hid (0 < (base.map (Value.int .u64)).length → some (⟨w.heap.size, 0, none⟩ : Addr) = some ⟨w.heap.size, 0, none⟩ ∧ ∃ ad, bo = some ad ∧ ∀ j v, (base.map (Value.int .u64))[j]? = some v → (w.alloc (.cells (madeCells #[.int .u64 0] n) 31)).cell? (ad.add j) = some v) := hideIt (by
        intro h
        obtain ⟨ad, e, hc⟩ := hb.src (by simp at h; omega)
        refine ⟨rfl, ad, e, fun j v hj => ?_⟩
        have := hc j v hj
        exact (World.cell?_alloc_lt _ _ _ (World.block_lt_of_cell? _ _ this)).trans this)
      have HL := hideIt hl
      have HO := hideIt hO
      have hbn : bn ≤ n := by omega
      have HE1 : Hid ((base.map (Value.int .u64)).length = Nat.min bn n) := hideIt (by rw [List.length_map, hl]; exact (Nat.min_eq_left hbn).symm)
      have HE2 : Hid (0 + (base.map (Value.int .u64)).length ≤ (List.replicate n (Value.int .u64 0)).length) := hideIt (by rw [List.length_map, List.length_replicate, hl]; omega)
      clear hl hb hO
      go_upto_region 12 with fail
      go_wp2_with (refine wpList_copy_splice rfl (.tmp 46) (.tmp 47) 22 22 rfl 31 Ybaf.underlying22 size31 (some ⟨w.heap.size, 0, none⟩) bo n n bn bc rfl rfl w.heap.size 0 (List.replicate n (.int .u64 0)) 31 HG.out (base.map (.int .u64)) HE1.out HS.out HE2.out (ints_oneCell _ _) w.heap.size w ((Below.refl _ _).alloc (Nat.le_refl _) _) (Nat.le_refl _) ?_; intro w2 hg2 hb2)
      have HW := start_own w w2 n base (by have := HL.out; omega) ub hn2 hg2.out
      clear HG HS HE1 HE2 hg2 hm
      obtain ⟨M0, hM0, uM0⟩ := HW
      have hsz2 : w.heap.size ≤ w2.heap.size := hb2.size
      have HC := hideIt (copy_any (some ⟨w.heap.size, 0, none⟩) n n M0 w2 (by omega) (RowAt.of_own hM0))
      have hrem : Int.tmod (num : Int) (n : Int) = ((num % n : Nat) : Int) := rfl
      refine HC.out.mono ?_
      rintro x w3 ⟨rfl, hown3, hb3⟩
      go_wp2_with (go_at_call 7; refine (stampOf_pos _ _ _ _ (by omega)).mono ?_; rintro x w4 ⟨rfl, o, o', rfl⟩)
      have HN := new_any ⟨#[113]⟩ num n n (some ⟨w.heap.size, 0, none⟩) ((w3.alloc o).alloc o') q_name hn1 (by omega) hnum
      go_fit HN
      rintro x w5 ⟨rfl, o2, rfl⟩
      clear HN HC
      go_wp2_with fail
      have he : num % n < n := Nat.mod_lt _ (by omega)
      have hmain := start_main n (num % n) ⟨#[113]⟩ M0 o o' o2 hM0 uM0 hb2 hown3 hb3
      obtain ⟨e, hee⟩ : ∃ e, e = num % n := ⟨_, rfl⟩
      obtain ⟨cb, hcb⟩ : ∃ cb, cb = w3.heap.size + 2 + 1 := ⟨_, rfl⟩
      have hcb1 : w3.heap.size + 2 + 1 = cb := hcb.symm
      have hcb2 : w3.heap.size + 3 = cb := hcb.symm
      rw [← hee] at hmain he
      rw [← hcb] at hmain
      have hee2 : (num : Int) % (n : Int) = (e : Int) := by rw [hee]; rfl
      simp only [hcb1, hee2]
      refine wp_world (fun wz => ∃ mb, Main w wz cb mb e n ⟨#[113]⟩ M0 ∧ mb = w2.heap.size) ⟨_, hmain, rfl⟩ ?_
      intro wz hz
      obtain ⟨mb, hz, hmb⟩ := hz
      rw [← hmb]
      have hcs := World.block_lt_of_cell? _ _ S.txt
      have hc0 := World.block_lt_of_cell? _ _ S.g0
      clear hmain hcb hcb1 hcb2 hee hee2 hrem hM0 uM0 hb2 hown3 hb3 hsz2 HL hmb
      go_loopw [10, 12, 14, 15, 16, 17, 18] (fun s10 _ s14 _ _ _ _ wr => ∃ (j mb : Nat) (M : List Int), s14 = .int .i64 j ∧ j ≤ m ∧ s10 = .slice (some ⟨mb, 0, none⟩) n n ∧ Main w wr cb mb e n ⟨#[113]⟩ M) (fun _ _ s14 _ _ _ _ _ => m - (intOf s14).toNat)
      case atStart => exact ⟨0, mb, M0, rfl, by omega, rfl, hz⟩
      case round =>
        clear hz
        clear M0
        obtain ⟨j, mb, M, rfl, hj, rfl, H⟩ := hrel
        by_cases hlt : j < m
        · obtain ⟨b, off, rfl, c0, c1, hA, uA, hop⟩ := HO.out j hlt
          have hkj := hk'.out j hlt
          have hbl := World.block_lt_of_cell? _ _ c0
          have d0 := (H.below.cell (p := ⟨b, off + j * 2, none⟩) hbl).trans c0
          have d1 := (H.below.cell (p := ⟨b, off + j * 2 + 1, none⟩) hbl).trans c1
          have hbl' : b < wr.heap.size := Nat.lt_of_lt_of_le hbl H.below.size
          clear c0 c1
          go_upto_if 78 with fail
          go_cut [12, 16, 17] from 66 to 130 (fun s12 s16 s17 wx => Done w wx cb mb e n wr.heap.size ⟨#[113]⟩ M s12 s16 s17)
          case first =>
            have hbW : Below wr.heap.size wr (wr.alloc (.cells #[.slice none 0 0, .pointer none, .int .i64 0, .int .u64 0] 35)) := (Below.refl _ _).alloc (Nat.le_refl _) _
            have CRW := H.cr.below hbW
            have SW := (S.below H.below).below hbW
            have FW := tape_of (tape_of hF H.below) hbW
            have hat0 := H.at0
            have hcb0 : cb ≠ 0 := by have : 0 < w.heap.size := hc0; omega
            have hcbs : cb ≠ sa.block := by omega
            have hclt := H.cr.lt
            by_cases hp : op j % 2 = 0
            · have hz1 : ((op j : Int) % 2 == 0) = true := by simp; omega
              have hz2 : (Int.tmod (op j : Int) 2 == 0) = true := hz1
              by_cases hy : M.getD e 0 = 18446744073709551615
              · have HC := local_bad F cb n e _ M _ sa st CRW H.u FW SW hcb0 hcbs q_name (by omega) he hy
                go_wp2_with fail
                go_fit HC
                rintro x w5 ⟨pb, rfl, _, _, hg5, C5⟩
                clear HC
                obtain ⟨r0, r1, r2, r3, q0, q1, q2, q3⟩ := res_round hclt hg5
                have HH := hideIt (held_of H _ (.slice none 0 0) (.pointer none) (.int .i64 0) (.int .u64 0) _ _ _ hg5 C5)
                go_wp2_with fail
                have HD := model_bad (some ⟨mb, 0, none⟩) none n 0 n 0 e M [] _ (by omega) (Nat.zero_le _) he (RowAt.of_own HH.out.own) (rowAt_nil _ _) H.u u64_nil hy
                go_fit HD
                rintro x w6 ⟨rfl, hb6⟩
                clear HD
                go_wp2_with fail
                go_meet
                case rel => exact .inl ⟨_, _, rfl, rfl, rfl, main_bad H HH.out hb6⟩
              · have HC := local_good F cb n e _ M _ sa st CRW H.u FW SW hcb0 hcbs q_name (by omega) he hy
                go_wp2_with fail
                go_fit HC
                rintro x w5 ⟨g, cap, at_, p, hs, rfl, hat, hown5, hrd, hg5, C5⟩
                clear HC
                obtain ⟨r0, r1, r2, r3, q0, q1, q2, q3⟩ := res_round hclt hg5
                have HH := hideIt (held_of H _ (.slice (some ⟨g, 0, none⟩) n cap) (.pointer none) (.int .i64 at_) (.int .u64 p) _ _ _ hg5 C5)
                go_wp2_with fail
                have HD := model_good (some ⟨mb, 0, none⟩) none n 0 n 0 e M [] _ (by omega) (Nat.zero_le _) he (RowAt.of_own HH.out.own) (rowAt_nil _ _) H.u u64_nil hy
                go_fit HD
                rintro x w6 ⟨nb, rfl, hnb6, hown6, hb6⟩
                clear HD
                go_wp2_with fail
                go_meet
                case rel => exact .inr ⟨rfl, rfl, nb, _, rfl, main_good H HH.out hb6 he u64_nil (Nat.zero_le _) hy hnb6 hown6, got_of H _ _ _ _ g cap at_ p hs hg5 hat hown5 hrd hb6⟩
            · have hz1 : ((op j : Int) % 2 == 0) = false := by simp; omega
              have hz2 : (Int.tmod (op j : Int) 2 == 0) = false := hz1
              have HK := copy_any (ao j) (k j) (c j) (A j) _ (by omega) ((hA.below H.below).below hbW)
              go_wp2_with fail
              go_fit HK
              rintro x w4 ⟨rfl, hown4', hb4⟩
              have hown4 := own_mono hown4' (Nat.zero_le _)
              rw [World.size_alloc] at hown4
              clear HK hown4'
              go_wp2_with fail
              have HT := stamp_uni (some ⟨wr.heap.size + 1, 0, none⟩) (k j) (k j) (A j) w4 (RowAt.of_own hown4)
              go_fit HT
              rintro x w5 ⟨so, sc, rfl, hb5, hr5, hso⟩
              have CR5 := (CRW.below hb4).below hb5
              have S5 := (SW.below hb4).below hb5
              have F5 := tape_of (tape_of FW hb4) hb5
              have hg45 := gb_trans (gb_below (some cb) hb4) (gb_below (some cb) hb5)
              have hown5 := own_keep hown4 hb5
              have hAc : ∀ b off, so = some ⟨b, off, none⟩ → b ≠ cb := by
                intro b off h
                rcases hso with h' | h'
                · rw [h'] at h; cases h; omega
                · rw [h'] at h; cases h
              clear HT CRW SW FW hbW hb4 hb5 hown4 hso
              go_wp2_with fail
              by_cases hkn : n < k j
              · have HC := long_cr F cb n e (k j) sc so _ M w5 CR5 F5 q_name (by omega) hkn (by omega)
                go_fit HC
                rintro x w6 ⟨hg6, ⟨pb, rfl, _⟩, C6⟩
                have hgW := gb_trans hg45 hg6
                obtain ⟨r0, r1, r2, r3, q0, q1, q2, q3⟩ := res_round hclt hgW
                have HH := hideIt (held_of H _ (.slice none 0 0) (.pointer none) (.int .i64 0) (.int .u64 0) _ _ _ hgW C6)
                clear HC
                go_wp2_with fail
                have HD := model_long (some ⟨mb, 0, none⟩) (some ⟨wr.heap.size + 1, 0, none⟩) n (k j) n (k j) e ((((w6.setCell ⟨wr.heap.size, 0, none⟩ (.slice none 0 0)).setCell ⟨wr.heap.size, 1, none⟩ (.pointer none)).setCell ⟨wr.heap.size, 2, none⟩ (.int .i64 0)).setCell ⟨wr.heap.size, 3, none⟩ (.int .u64 0)) hkn
                go_fit HD
                rintro x w7 ⟨rfl, rfl⟩
                clear HD
                go_wp2_with fail
                go_meet
                case rel => exact .inl ⟨_, _, rfl, rfl, rfl, main_bad H HH.out (Below.refl _ _)⟩
              · have hkn' : k j ≤ n := by omega
                by_cases hy : (mxU M (A j) (k j)).getD e 0 = 18446744073709551615
                · have HC := receive_bad F cb n e _ M w5 sa st CR5 H.u F5 S5 hcb0 hcbs q_name (by omega) he (k j) sc so (A j) hr5 hAc uA hkn' hy
                  go_fit HC
                  rintro x w6 ⟨pb, rfl, _, _, hg6, C6⟩
                  have hgW := gb_trans hg45 hg6
                  obtain ⟨r0, r1, r2, r3, q0, q1, q2, q3⟩ := res_round hclt hgW
                  have HH := hideIt (held_of H _ (.slice none 0 0) (.pointer none) (.int .i64 0) (.int .u64 0) _ _ _ hgW C6)
                  have hown6 := own_grown hown5 hg6 (by omega)
                  clear HC
                  go_wp2_with fail
                  have HD := model_bad (some ⟨mb, 0, none⟩) (some ⟨wr.heap.size + 1, 0, none⟩) n (k j) n (k j) e M (A j) _ (by omega) hkn' he (RowAt.of_own HH.out.own) (RowAt.of_own (own_put hown6 (by omega) _ _ _ _)) H.u uA hy
                  go_fit HD
                  rintro x w7 ⟨rfl, hb7⟩
                  clear HD
                  go_wp2_with fail
                  go_meet
                  case rel => exact .inl ⟨_, _, rfl, rfl, rfl, main_bad H HH.out hb7⟩
                · have HC := receive_good F cb n e _ M w5 sa st CR5 H.u F5 S5 hcb0 hcbs q_name (by omega) he (k j) sc so (A j) hr5 hAc uA hkn' hy
                  go_fit HC
                  rintro x w6 ⟨g, cap, at_, p, hs, rfl, hat, hown6', hrd, hg6, C6⟩
                  have hgW := gb_trans hg45 hg6
                  obtain ⟨r0, r1, r2, r3, q0, q1, q2, q3⟩ := res_round hclt hgW
                  have HH := hideIt (held_of H _ (.slice (some ⟨g, 0, none⟩) n cap) (.pointer none) (.int .i64 at_) (.int .u64 p) _ _ _ hgW C6)
                  have hown6 := own_grown hown5 hg6 (by omega)
                  clear HC
                  go_wp2_with fail
                  have HD := model_good (some ⟨mb, 0, none⟩) (some ⟨wr.heap.size + 1, 0, none⟩) n (k j) n (k j) e M (A j) _ (by omega) hkn' he (RowAt.of_own HH.out.own) (RowAt.of_own (own_put hown6 (by omega) _ _ _ _)) H.u uA hy
                  go_fit HD
                  rintro x w7 ⟨nb, rfl, hnb7, hown7, hb7⟩
                  clear HD
                  go_wp2_with fail
                  go_meet
                  case rel => exact .inr ⟨rfl, rfl, nb, _, rfl, main_good H HH.out hb7 he uA (by rw [hA.1]; exact hkn') (by rw [hA.1]; exact hy) hnb7 hown7, got_of H _ _ _ _ g cap at_ p hs hgW hat hown6' hrd hb7⟩
          case rest =>
            clear d0 d1 hA uA
            rcases hcut with ⟨ty, pb, rfl, rfl, rfl, H8⟩ | ⟨rfl, rfl, nb, M', rfl, H', g, cap, at_, p, hs, g0, g1, g2, g3, hat, hown, hrd⟩
            · clear H
              go_wp2_with fail
              have HN := now_cr cb n e _ M _ H8.cr he
              go_fit HN
              rintro x w9 ⟨hg9, v, rfl, SR9, C9⟩
              clear HN
              have H9 := H8.grown hg9 C9
              clear H8
              go_wp2_with fail
              have HQ := read_sr v n M w9 SR9 (by omega) (by omega)
              go_fit HQ
              rintro x w10 ⟨rfl, hown10, hb10⟩
              clear HQ
              have H10 := H9.below' hb10
              clear H9
              go_wp2_with fail
              have HE := eq_same (some ⟨w9.heap.size + 1, 0, none⟩) (some ⟨mb, 0, none⟩) n M w10 (by omega) (RowAt.of_own (own_mono hown10 (Nat.zero_le _))) (RowAt.of_own H10.own)
              go_fit HE
              rintro x w11 ⟨rfl, q', rfl⟩
              clear HE
              have H11 := H10.drewN q'
              go_wp2_with fail
              go_roundw
              case rel => exact ⟨j + 1, mb, M, by go_num, by omega, rfl, H11⟩
              case measure => simp [intOf]; omega
            · clear H
              have HR := read_pos g n cap at_ p hs wc (by omega) (by omega) hat hown
              rw [hrd] at HR
              go_wp2_with fail
              go_fit HR
              rintro x w7 ⟨rfl, hown7, hb7⟩
              clear HR
              have H7 := H'.below' hb7
              go_wp2_with fail
              have HE := eq_same (some ⟨wc.heap.size + 1, 0, none⟩) (some ⟨nb, 0, none⟩) n M' w7 (by omega) (RowAt.of_own (own_mono hown7 (Nat.zero_le _))) (RowAt.of_own H7.own)
              go_fit HE
              rintro x w8 ⟨rfl, q, rfl⟩
              clear HE hown7 hb7 g0 g1 g2 g3 hown
              have H8 := H7.drewN q
              clear H7 H'
              go_wp2_with fail
              have HN := now_cr cb n e _ M' _ H8.cr he
              go_fit HN
              rintro x w9 ⟨hg9, v, rfl, SR9, C9⟩
              clear HN
              have H9 := H8.grown hg9 C9
              clear H8
              go_wp2_with fail
              have HQ := read_sr v n M' w9 SR9 (by omega) (by omega)
              go_fit HQ
              rintro x w10 ⟨rfl, hown10, hb10⟩
              clear HQ
              have H10 := H9.below' hb10
              clear H9
              go_wp2_with fail
              have HE := eq_same (some ⟨w9.heap.size + 1, 0, none⟩) (some ⟨nb, 0, none⟩) n M' w10 (by omega) (RowAt.of_own (own_mono hown10 (Nat.zero_le _))) (RowAt.of_own H10.own)
              go_fit HE
              rintro x w11 ⟨rfl, q', rfl⟩
              clear HE
              have H11 := H10.drewN q'
              go_wp2_with fail
              go_roundw
              case rel => exact ⟨j + 1, nb, M', by go_num, by omega, rfl, H11⟩
              case measure => simp [intOf]; omega
        · go_wp2_with fail
          go_ret
          exact ⟨rfl, H.below⟩
end Go.Proofs.YbulksesFmt
