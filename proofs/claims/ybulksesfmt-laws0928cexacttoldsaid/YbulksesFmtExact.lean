/- The law Exact. -/
import Derived.Test.YbulksesFmtScript
import Derived.Test.YbulksesFmtSide
namespace Go.Proofs.YbulksesFmt
open Go.RowKit Go.MuLone Go.Stop

set_option maxRecDepth 20000 in
set_option maxHeartbeats 4000000 in
theorem exact_any (F : Interp) (bo ao : Option Addr) (bn bc k ac num : Nat) (base A : List Int) (w : World) (sa : Addr) (st : ByteArray) (hF : F.answers w.tape) (S : Sent w sa st)
    (hb : RowAt w bo bn base) (ub : U64 base) (hA : RowAt w ao k A) (uA : U64 A) (hnum : num ≤ 65535) :
    Calls Ybaf.prog 3 #[.slice bo bn bc, .slice ao k ac, .int .u16 num] w fun x w' => x = .returned (.bool true) ∧ Below w.heap.size w w' := by
  go_enter Ybaf.func3, Ybaf.ntmps3
  by_cases h1 : 1024 < bn
  · go_wp2_with fail
    go_ret
    exact ⟨rfl, Below.refl _ _⟩
  by_cases h2 : 1024 < k
  · go_wp2_with fail
    go_ret
    exact ⟨rfl, Below.refl _ _⟩
  obtain ⟨n, hn1, hn2, hnb, hn0⟩ : ∃ n : Nat, 1 ≤ n ∧ n ≤ 1024 ∧ (bn ≠ 0 → n = bn) ∧ (bn = 0 → n = 1) := by
    by_cases hz : bn = 0
    · exact ⟨1, by omega, by omega, by omega, by omega⟩
    · exact ⟨bn, by omega, by omega, by omega, by omega⟩
  go_upto_if 30 with fail
  go_cut [7] from 19 (fun s7 wx => s7 = .int .i64 n ∧ wx = w)
  case first =>
    by_cases hz : bn = 0
    · have hn3 := hn0 hz
      subst hz hn3
      go_wp2_with fail
      go_meet
      case rel => exact ⟨rfl, rfl⟩
    · have hn3 := hnb hz
      subst hn3
      go_wp2_with fail
      go_meet
      case rel => exact ⟨rfl, rfl⟩
  case rest =>
  obtain ⟨rfl, hwc⟩ := hcut
  have hwc' := hwc.symm
  subst hwc'
  have hm := run_make_row' (P := Ybaf.prog) 22 31 _ 8 Ybaf.underlying22 info31 rfl .i64 .i64 n (by omega) (by omega)
  have hl := hb.1
  have HG : Hid ((w.alloc (.cells (madeCells #[.int .u64 0] n) 31)).heap[w.heap.size]? = some (.cells (List.replicate n (Value.int .u64 0)).toArray 31 (0, 0))) := hideIt (by rw [heap_alloc_new, toArray_made])
  have HS : Hid (0 < (base.map (Value.int .u64)).length → some (⟨w.heap.size, 0, none⟩ : Addr) = some ⟨w.heap.size, 0, none⟩ ∧ ∃ ad, bo = some ad ∧ ∀ j v, (base.map (Value.int .u64))[j]? = some v → (w.alloc (.cells (madeCells #[.int .u64 0] n) 31)).cell? (ad.add j) = some v) := hideIt (by
    intro h
    obtain ⟨ad, e, hc⟩ := hb.src (by simp at h; omega)
    refine ⟨rfl, ad, e, fun j v hj => ?_⟩
    have := hc j v hj
    exact (World.cell?_alloc_lt _ _ _ (World.block_lt_of_cell? _ _ this)).trans this)
  have HL := hideIt hl
  have HA := hideIt hA
  have hbn : bn ≤ n := by omega
  have HE1 : Hid ((base.map (Value.int .u64)).length = Nat.min bn n) := hideIt (by rw [List.length_map, hl]; exact (Nat.min_eq_left hbn).symm)
  have HE2 : Hid (0 + (base.map (Value.int .u64)).length ≤ (List.replicate n (Value.int .u64 0)).length) := hideIt (by rw [List.length_map, List.length_replicate, hl]; omega)
  clear hl hb hA
  go_upto_region 7 with fail
  go_wp2_with (refine wpList_copy_splice rfl (.tmp 33) (.tmp 34) 22 22 rfl 31 Ybaf.underlying22 size31 (some ⟨w.heap.size, 0, none⟩) bo n n bn bc rfl rfl w.heap.size 0 (List.replicate n (.int .u64 0)) 31 HG.out (base.map (.int .u64)) HE1.out HS.out HE2.out (ints_oneCell _ _) w.heap.size w ((Below.refl _ _).alloc (Nat.le_refl _) _) (Nat.le_refl _) ?_; intro w2 hg2 hb2)
  have HW := start_own w w2 n base (by have := HL.out; omega) ub hn2 hg2.out
  clear HG HS HE1 HE2 hg2 hm
  obtain ⟨M, hM0, uM⟩ := HW
  have hrem : Int.tmod (num : Int) (n : Int) = ((num % n : Nat) : Int) := rfl
  have HC := copy_any (some ⟨w.heap.size, 0, none⟩) n n M w2 (by omega) (RowAt.of_own hM0)
  go_fit HC
  rintro x w3 ⟨rfl, hown3', hb3⟩
  have hown3 := own_mono hown3' (Nat.zero_le _)
  have hbw3 := hb2.trans (hb3.mono hb2.size)
  clear HC hown3'
  go_wp2_with fail
  have HC := copy_any ao k ac A w3 (by omega) (HA.out.below hbw3)
  go_fit HC
  rintro x w4 ⟨rfl, hown4', hb4⟩
  have hown4 := own_mono hown4' (Nat.zero_le _)
  have hbw4 := hbw3.trans (hb4.mono hbw3.size)
  clear HC hown4'
  go_wp2_with fail
  have HC := copy_any ao k ac A w4 (by omega) (HA.out.below hbw4)
  go_fit HC
  rintro x w5 ⟨rfl, hown5', hb5⟩
  have hown5 := own_mono hown5' (Nat.zero_le _)
  clear HC hown5' hbw3 hbw4
  go_wp2_with (go_at_call 7; refine (stampOf_pos _ _ _ _ (by omega)).mono ?_; rintro x w6 ⟨rfl, o, o', rfl⟩)
  have HN := new_any ⟨#[112]⟩ num n n (some ⟨w.heap.size, 0, none⟩) ((w5.alloc o).alloc o') p_name hn1 (by omega) hnum
  go_fit HN
  rintro x w6 ⟨rfl, o2, rfl⟩
  clear HN
  go_upto_region 14 with fail
  have he : num % n < n := Nat.mod_lt _ (by omega)
  have hmain := start_ex n (num % n) k ⟨#[112]⟩ M A o o' o2 hM0 hb2 hown3 hb3 hown4 hb4 hown5 hb5
  obtain ⟨e, hee⟩ : ∃ e, e = num % n := ⟨_, rfl⟩
  obtain ⟨cb, hcb⟩ : ∃ cb, cb = w5.heap.size + 2 + 1 := ⟨_, rfl⟩
  have hee2 : (num : Int) % (n : Int) = (e : Int) := by rw [hee]; rfl
  have hcb1 : w5.heap.size + 2 + 1 = cb := hcb.symm
  rw [← hee] at hmain he
  rw [← hcb] at hmain
  simp only [hcb1, hee2]
  refine wp_world (fun wx => Ex w wx cb w.heap.size w2.heap.size w3.heap.size w4.heap.size e n k ⟨#[112]⟩ M A M) hmain ?_
  intro wz E
  have hlA : Hid (A.length = k) := hideIt HA.out.1
  have hcs := World.block_lt_of_cell? _ _ S.txt
  have hc0 := World.block_lt_of_cell? _ _ S.g0
  have hat0 := E.at0
  have hcb0 : cb ≠ 0 := by have : 0 < w.heap.size := hc0; omega
  have hcbs : cb ≠ sa.block := by omega
  clear hmain hM0 hown3 hown4 hown5 hb2 hb3 hb4 hb5 HA hcb hcb1 hee
  have HT := stamp_uni (some ⟨w3.heap.size, 0, none⟩) k k A wz (RowAt.of_own E.ta)
  go_wp2_with fail
  go_fit HT
  rintro x w7 ⟨so, sc, rfl, hb7, hr7, hso⟩
  have E7 := E.below' hb7
  have S7 := S.below E7.below
  have F7 := tape_of hF E7.below
  have hAc : ∀ b off, so = some ⟨b, off, none⟩ → b ≠ cb := by
    intro b off h
    rcases hso with h' | h'
    · rw [h'] at h; cases h; exact E.n3
    · rw [h'] at h; cases h
  clear HT hso hb7 E
  go_wp2_with fail
  by_cases hkn : n < k
  · have HC := long_cr F cb n e k sc so _ M w7 E7.cr F7 p_name (by omega) hkn (by omega)
    go_fit HC
    rintro x w8 ⟨hg8, ⟨pb, rfl, _⟩, C8⟩
    have E8 := E7.grown hg8 C8
    clear HC E7 C8 S7 F7 hr7 hAc hg8
    go_upto_region 15 with fail
    refine wp_world (fun wx => Ex w wx cb w.heap.size w2.heap.size w3.heap.size w4.heap.size e n k ⟨#[112]⟩ M A M ∧ Got0 wx w8.heap.size) ⟨E8.below' (below_new _ _), got0_new _⟩ ?_
    rintro wx ⟨E9, G9⟩
    go_wp2_with fail
    have HE := eq_below (some ⟨w3.heap.size, 0, none⟩) (some ⟨w4.heap.size, 0, none⟩) k A wx (by omega) (RowAt.of_own E9.ta) (RowAt.of_own E9.ak)
    go_fit HE
    rintro x w10 ⟨rfl, hb10⟩
    clear HE
    have E10 := E9.below' hb10
    go_wp2_with fail
    have HE := eq_below (some ⟨w.heap.size, 0, none⟩) (some ⟨w2.heap.size, 0, none⟩) n M w10 (by omega) (RowAt.of_own E10.st) (RowAt.of_own E10.kp)
    go_fit HE
    rintro x w11 ⟨rfl, hb11⟩
    clear HE
    have E11 := E10.below' hb11
    go_wp2_with fail
    have HD := model_long (some ⟨w2.heap.size, 0, none⟩) (some ⟨w3.heap.size, 0, none⟩) n k n k e w11 hkn
    go_fit HD
    rintro x w12 ⟨rfl, rfl⟩
    clear HD
    obtain ⟨g0, g1, g2, g3⟩ := (G9.keep hb10).keep hb11
    go_wp2_with fail
    have HR := read_zero w12
    go_fit HR
    rintro x w13 ⟨a, rfl, hb13⟩
    clear HR
    have E13 := E11.below' hb13
    go_wp2_with fail
    have HN := now_cr cb n e _ M _ E13.cr he
    go_fit HN
    rintro x w14 ⟨hg14, v, rfl, SR14, C14⟩
    clear HN
    have E14 := E13.grown hg14 C14
    go_wp2_with fail
    have HQ := read_sr v n M w14 SR14 (by omega) (by omega)
    go_fit HQ
    rintro x w15 ⟨rfl, hown15, hb15⟩
    clear HQ
    have E15 := E14.below' hb15
    go_wp2_with fail
    have HE := eq_below (some ⟨w14.heap.size + 1, 0, none⟩) (some ⟨w2.heap.size, 0, none⟩) n M w15 (by omega) (RowAt.of_own (own_mono hown15 (Nat.zero_le _))) (RowAt.of_own E15.kp)
    go_fit HE
    rintro x w16 ⟨rfl, hb16⟩
    clear HE
    have E16 := E15.below' hb16
    go_wp2_with fail
    go_ret
    exact ⟨rfl, E16.below⟩
  have hkn' : k ≤ n := by omega
  by_cases hy : (mxU M A k).getD e 0 = 18446744073709551615
  · have HC := receive_bad F cb n e _ M w7 sa st E7.cr uM F7 S7 hcb0 hcbs p_name (by omega) he k sc so A hr7 hAc uA hkn' hy
    go_fit HC
    rintro x w8 ⟨pb, rfl, hpb, _, hg8, C8⟩
    have E8 := E7.grown hg8 C8
    clear HC E7 C8 S7 F7 hr7 hAc hg8
    go_upto_region 15 with fail
    refine wp_world (fun wx => Ex w wx cb w.heap.size w2.heap.size w3.heap.size w4.heap.size e n k ⟨#[112]⟩ M A M ∧ Got0 wx w8.heap.size ∧ wx.cell? ⟨pb, 1, none⟩ = some (.iface 93 (.pointer (some sa)))) ⟨E8.below' (below_new _ _), got0_new _, cell_keep hpb (below_new _ _)⟩ ?_
    clear hpb
    rintro wx ⟨E9, G9, hpb⟩
    go_wp2_with fail
    have HE := eq_below (some ⟨w3.heap.size, 0, none⟩) (some ⟨w4.heap.size, 0, none⟩) k A wx (by omega) (RowAt.of_own E9.ta) (RowAt.of_own E9.ak)
    go_fit HE
    rintro x w10 ⟨rfl, hb10⟩
    clear HE
    have E10 := E9.below' hb10
    go_wp2_with fail
    have HE := eq_below (some ⟨w.heap.size, 0, none⟩) (some ⟨w2.heap.size, 0, none⟩) n M w10 (by omega) (RowAt.of_own E10.st) (RowAt.of_own E10.kp)
    go_fit HE
    rintro x w11 ⟨rfl, hb11⟩
    clear HE
    have E11 := E10.below' hb11
    go_wp2_with fail
    have HD := model_bad (some ⟨w2.heap.size, 0, none⟩) (some ⟨w3.heap.size, 0, none⟩) n k n k e M A w11 (by omega) hkn' he (RowAt.of_own E11.kp) (RowAt.of_own E11.ta) uM uA hy
    go_fit HD
    rintro x w12 ⟨rfl, hb12⟩
    clear HD
    have E12 := E11.below' hb12
    obtain ⟨g0, g1, g2, g3⟩ := ((G9.keep hb10).keep hb11).keep hb12
    go_wp2_with fail
    have HR := read_zero w12
    go_fit HR
    rintro x w13 ⟨a, rfl, hb13⟩
    clear HR
    have E13 := E12.below' hb13
    have g00 := (S.below E13.below).g0
    have HI := is_wrap_same pb 0 sa w13 (cell_keep (cell_keep (cell_keep (cell_keep hpb hb10) hb11) hb12) hb13)
    go_wp2_with fail
    go_fit HI
    rintro x w14 ⟨rfl, rfl⟩
    clear HI
    go_wp2_with fail
    have HN := now_cr cb n e _ M _ E13.cr he
    go_fit HN
    rintro x w17 ⟨hg17, v, rfl, SR17, C17⟩
    clear HN
    have E17 := E13.grown hg17 C17
    go_wp2_with fail
    have HQ := read_sr v n M w17 SR17 (by omega) (by omega)
    go_fit HQ
    rintro x w15 ⟨rfl, hown15, hb15⟩
    clear HQ
    have E15 := E17.below' hb15
    go_wp2_with fail
    have HE := eq_below (some ⟨w17.heap.size + 1, 0, none⟩) (some ⟨w2.heap.size, 0, none⟩) n M w15 (by omega) (RowAt.of_own (own_mono hown15 (Nat.zero_le _))) (RowAt.of_own E15.kp)
    go_fit HE
    rintro x w16 ⟨rfl, hb16⟩
    clear HE
    have E16 := E15.below' hb16
    go_wp2_with fail
    go_ret
    exact ⟨rfl, E16.below⟩
  · have HC := receive_good F cb n e _ M w7 sa st E7.cr uM F7 S7 hcb0 hcbs p_name (by omega) he k sc so A hr7 hAc uA hkn' hy
    go_fit HC
    rintro x w8 ⟨g, cap, at_, p, hs, rfl, hat, hown8, hrd, hg8, C8⟩
    have E8 := E7.grown hg8 C8
    clear HC E7 C8 S7 F7 hr7 hAc hg8
    go_upto_region 15 with fail
    refine wp_world (fun wx => Ex w wx cb w.heap.size w2.heap.size w3.heap.size w4.heap.size e n k ⟨#[112]⟩ M A (bump M A e) ∧ GotAt wx w8.heap.size n (bump M A e)) ⟨E8.below' (below_new _ _), got_new w8 n g cap at_ p hs _ hat hown8 hrd⟩ ?_
    rintro wx ⟨E9, G9⟩
    clear E8 hown8 hat hrd
    go_wp2_with fail
    have HE := eq_below (some ⟨w3.heap.size, 0, none⟩) (some ⟨w4.heap.size, 0, none⟩) k A wx (by omega) (RowAt.of_own E9.ta) (RowAt.of_own E9.ak)
    go_fit HE
    rintro x w10 ⟨rfl, hb10⟩
    clear HE
    have E10 := E9.below' hb10
    go_wp2_with fail
    have HE := eq_below (some ⟨w.heap.size, 0, none⟩) (some ⟨w2.heap.size, 0, none⟩) n M w10 (by omega) (RowAt.of_own E10.st) (RowAt.of_own E10.kp)
    go_fit HE
    rintro x w11 ⟨rfl, hb11⟩
    clear HE
    have E11 := E10.below' hb11
    go_wp2_with fail
    have HD := model_good (some ⟨w2.heap.size, 0, none⟩) (some ⟨w3.heap.size, 0, none⟩) n k n k e M A w11 (by omega) hkn' he (RowAt.of_own E11.kp) (RowAt.of_own E11.ta) uM uA hy
    go_fit HD
    rintro x w12 ⟨nb, rfl, hnb12, hown12, hb12⟩
    clear HD
    have E12 := E11.below' hb12
    have hclt := E11.cr.lt
    obtain ⟨g', cap', at', p', hs', g0, g1, g2, g3, hat', hown', hrd'⟩ := ((G9.keep hb10).keep hb11).keep hb12
    have HR := read_pos g' n cap' at' p' hs' w12 (by omega) (by omega) hat' hown'
    rw [hrd'] at HR
    go_wp2_with fail
    go_fit HR
    rintro x w13 ⟨rfl, hown13, hb13⟩
    clear HR
    have E13 := E12.below' hb13
    have hn13 := own_keep hown12 hb13
    go_wp2_with fail
    have HE := eq_below (some ⟨w12.heap.size + 1, 0, none⟩) (some ⟨nb, 0, none⟩) n (bump M A e) w13 (by omega) (RowAt.of_own (own_mono hown13 (Nat.zero_le _))) (RowAt.of_own hn13)
    go_fit HE
    rintro x w14 ⟨rfl, hb14⟩
    clear HE
    have E14 := E13.below' hb14
    have hn14 := own_keep hn13 hb14
    go_wp2_with fail
    have HN := now_cr cb n e _ (bump M A e) _ E14.cr he
    go_fit HN
    rintro x w15 ⟨hg15, v, rfl, SR15, C15⟩
    clear HN
    have E15 := E14.grown hg15 C15
    have hn15 := own_grown hn14 hg15 (by omega)
    go_wp2_with fail
    have HQ := read_sr v n (bump M A e) w15 SR15 (by omega) (by omega)
    go_fit HQ
    rintro x w16 ⟨rfl, hown16, hb16⟩
    clear HQ
    have E16 := E15.below' hb16
    have hn16 := own_keep hn15 hb16
    go_wp2_with fail
    have HE := eq_below (some ⟨w15.heap.size + 1, 0, none⟩) (some ⟨nb, 0, none⟩) n (bump M A e) w16 (by omega) (RowAt.of_own (own_mono hown16 (Nat.zero_le _))) (RowAt.of_own hn16)
    go_fit HE
    rintro x w17 ⟨rfl, hb17⟩
    clear HE
    have E17 := E16.below' hb17
    go_wp2_with fail
    go_ret
    exact ⟨rfl, E17.below⟩
end Go.Proofs.YbulksesFmt
