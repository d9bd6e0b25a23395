/- PlausibleClock.Receive: the refusal of the step. -/
import Derived.Test.YbulksesFmtReceive
namespace Go.Proofs.YbulksesFmt
open Go.RowKit Go.MuLone Go.Stop

set_option maxRecDepth 20000 in
set_option maxHeartbeats 2000000 in
theorem receive_over (F : Interp) (cb g n cap at_ e k uc : Nat) (uo : Option Addr) (nm : ByteArray) (p : Int) (hs A : List Int) (w : World) (sa : Addr) (st : ByteArray) (C : Clk w cb nm e 0 (.slice (some ⟨g, 0, none⟩) n cap) at_ p) (hF : F.answers w.tape) (S : Sent w sa st) (hc0 : cb ≠ 0) (hcs : cb ≠ sa.block) (hgc : g ≠ cb) (hnm : nm.toList.isEmpty = false) (hn : n ≤ 2000) (he : e < n) (ha : at_ = 0 ∨ at_ = e + 1) (hk : k ≤ n)
    (hown : w.ownsRow 0 31 1 (.slice (some ⟨g, 0, none⟩) n cap) n (hs.map (.int .u64))) (hA : RowAt w uo k A) (hAc : ∀ b off, uo = some ⟨b, off, none⟩ → b ≠ cb) (hy : (mxU (rd hs at_ p) A k).getD e 0 = 18446744073709551615) :
    Calls Ybaf.prog 8 #[.pointer (some ⟨cb, 0, none⟩), .agg #[.slice uo k uc, .pointer none, .int .i64 0, .int .u64 0]] w fun x w' => ∃ pb, 
      x = .returned (.tuple #[.agg #[.slice none 0 0, .pointer none, .int .i64 0, .int .u64 0], .iface 77 (.pointer (some ⟨pb, 0, none⟩))]) ∧ w'.cell? ⟨pb, 1, none⟩ = some (.iface 93 (.pointer (some sa))) ∧ w.heap.size ≤ pb ∧
        Clk w' cb nm e 0 (.slice (some ⟨g, 0, none⟩) n cap) at_ p ∧ w.grownBy w' (some cb) := by
  have hlt := C.lt
  obtain ⟨W1, hW1⟩ : ∃ W1, W1 = ((w.setCell ⟨cb, 2, none⟩ (.int .i32 1)).alloc (.cells #[.slice uo k uc, .pointer none, .int .i64 0, .int .u64 0] 35)).alloc (.cells #[.slice none 0 0, .pointer none, .int .i64 0, .int .u64 0] 35) := ⟨_, rfl⟩
  have hs1 : W1.heap.size = w.heap.size + 2 := by rw [hW1]; simp
  have hg1 : w.grownBy W1 (some cb) := by rw [hW1]; exact gb_alloc (gb_alloc (gb_set (gb_refl _ _) _ _) _) _
  have C1 : Clk W1 cb nm e 1 (.slice (some ⟨g, 0, none⟩) n cap) at_ p := by rw [hW1]; exact ((C.setMu 1).alloc _).alloc _
  have CU : CL W1 w.heap.size 0 (.slice uo k uc) 0 0 := by
    rw [hW1]
    have := (CL.boxed (w.setCell ⟨cb, 2, none⟩ (.int .i32 1)) (.slice uo k uc) 0 0 35).alloc (.cells #[.slice none 0 0, .pointer none, .int .i64 0, .int .u64 0] 35)
    simpa using this
  have hR1 : W1.heap[w.heap.size + 1]? = some (.cells #[.slice none 0 0, .pointer none, .int .i64 0, .int .u64 0] 35 (0, 0)) := by
    rw [hW1, show w.heap.size + 1 = ((w.setCell ⟨cb, 2, none⟩ (.int .i32 1)).alloc (.cells #[.slice uo k uc, .pointer none, .int .i64 0, .int .u64 0] 35)).heap.size by simp, heap_alloc_new]
  have hO1 : W1.ownsRow 0 31 1 (.slice (some ⟨g, 0, none⟩) n cap) n (hs.map (.int .u64)) := hown.kept hg1 (.inr (by simp [Value.ownBlock]; exact hgc))
  have hA1 : RowAt W1 uo k A := hA.grown hg1 hAc
  have c0 : w.cell? ⟨cb, 0, none⟩ = some (.string nm) := C.cell 0
  have HW1 := hideIt hW1
  have hS := hideIt (S.grown hg1 hc0 hcs)
  have hF1 : F.answers W1.tape := by rw [hg1.tape]; exact hF
  clear hW1 hown hA S
  have hy' := hideIt hy
  clear hy
  go_enter_defers Ybaf.func8, Ybaf.ntmps8
  go_wp2_with (go_at_call 19; refine (checkName_ok _ _ hnm).mono ?_; rintro x w' ⟨rfl, rfl⟩)
  have hlk := lock_free muLib ⟨cb, 2, none⟩ ((w.alloc (.cells #[.slice uo k uc, .pointer none, .int .i64 0, .int .u64 0] 35)).alloc (.cells #[.slice none 0 0, .pointer none, .int .i64 0, .int .u64 0] 35)) (((C.alloc _).alloc _).cell 2) (((C.alloc _).alloc _).frozen 2)
  go_fit hlk
  rintro x w' ⟨rfl, rfl⟩
  clear hlk
  go_upto_region 6 with fail
  rw [← HW1.out]
  have CN : CL W1 cb 4 (.slice (some ⟨g, 0, none⟩) n cap) at_ p := ⟨C1.cell 4, C1.cell 5, C1.cell 6, C1.cell 7⟩
  clear c0 HW1
  go_quiet (first
    | (go_at_call_of 16 (Value.pointer (some { block := w.heap.size, off := 0 })); exact Calls.quiet_of_same (len_any w.heap.size 0 uo k uc 0 0 _ (CU.drewN _)))
    | (go_at_call 16; exact Calls.quiet_of_same (len_any cb 4 (some ⟨g, 0, none⟩) n cap at_ p _ (CN.drewN _))))
  obtain ⟨n0, n1, n2, n3⟩ := CN
  obtain ⟨u0, u1, u2, u3⟩ := CU
  have hm := hideIt (fun q => merge_any g n cap at_ k uc uo p hs A (W1.drewN q) (by omega) hn (by omega) hk (own_drewN hO1 q) hA1)
  have hstep := hideIt (fun (mb : Nat) (w2 : World) (hb2 : Below W1.heap.size W1 w2) (hown2 : w2.ownsRow W1.heap.size 31 1 (.slice (some ⟨mb, 0, none⟩) n n) n ((mxU (rd hs at_ p) A k).map (.int .u64))) =>
    step_over F cb mb n n 0 e nm 0 (mxU (rd hs at_ p) A k) _ _ _ w2 sa st (C1.below hb2 (by omega)) (by rw [hb2.tape]; exact hF1) (hS.out.below hb2) hn he (.inl rfl) (own_mono hown2 (Nat.zero_le _)) (by rw [rd, if_pos rfl]; exact hy'.out))
  have hres := hideIt (fun (w2 w3 : World) (hb2 : Below W1.heap.size W1 w2) (hg3 : w2.grownBy w3 (some cb)) => Res.of (res_kept hR1 hb2 hg3 (by omega) (by omega)))
  have hfd := field35
  go_wp2_with fail
  refine wp_noPanic ?_
  go_region_with (first
    | (go_at_call 23; refine (hm.out _).mono ?_; rintro x w2 ⟨mb, rfl, hmb, hown2, hb2'⟩; have hb2 := below_of_drewN hb2')
    | (go_at_call 22; go_must (refine (hstep.out mb _ hb2 hown2).mono ?_; rintro x w3 ⟨pb, rfl, hpb, hpl, hb3⟩; have hg3 : w2.grownBy w3 (some cb) := ⟨hb3.os, hb3.tape, hb3.output, hb3.size, fun k hk _ => hb3.block k hk⟩; obtain ⟨r0, r1, r2, r3, q0, q1, q2, q3⟩ := hres.out _ _ hb2 hg3)))
  all_goals
    refine noPanic_normal ?_
    have hpl' : w.heap.size + 2 ≤ pb := by have h := hb2.size; omega
    have C3 := (C1.below hb2 (by omega)).grown (row := some pb) (w' := w3) ⟨hb3.os, hb3.tape, hb3.output, hb3.size, fun k hk _ => hb3.block k hk⟩ (by simp; omega)
    have hgw := gb_trans (gb_trans hg1 (row := some cb) ⟨hb2.os, hb2.tape, hb2.output, hb2.size, fun k hk _ => hb2.block k hk⟩) hg3
    clear hstep hres hfd hm n0 n1 n2 n3 u0 u1 u2 u3 hown2 hb2 hb2' hg3 hb3 hg1 hR1 hO1 hA1 C1 hy' hS
    go_wp2_with fail
    refine leaves_cons (f := 21) (args := #[.pointer (some ⟨cb, 2, none⟩)]) (by simp) (by simp [go_sem]) ?_
    have C4 := C3.grown (gb_set (gb_set (gb_set (gb_set (gb_refl w3 (some (w.heap.size + 1))) 0 (.slice none 0 0)) 1 (.pointer none)) 2 (.int .i64 0)) 3 (.int .u64 0)) (by simp; omega)
    refine (unlock_deferred muLib ⟨cb, 2, none⟩ .returning _ (C4.cell 2) (C4.frozen 2)).mono ?_
    rintro x u' w'' ⟨rfl, rfl, rfl⟩
    refine ⟨.tuple #[.agg #[.slice none 0 0, .pointer none, .int .i64 0, .int .u64 0], .iface 77 (.pointer (some ⟨pb, 0, none⟩))], ?_, pb, rfl, ?_, by omega, C4.setMu 0, ?_⟩
    · simp [results, Ybaf.results8, go_sem, r0, r1, r2, r3]
    · rw [World.cell?_setCell_other _ _ _ _ (by simp <;> omega), World.cell?_setCell_other _ _ _ _ (by simp <;> omega), World.cell?_setCell_other _ _ _ _ (by simp <;> omega), World.cell?_setCell_other _ _ _ _ (by simp <;> omega), World.cell?_setCell_other _ _ _ _ (by simp <;> omega)]
      exact hpb
    · exact gb_set (gb_set_new (gb_set_new (gb_set_new (gb_set_new hgw (Nat.le_succ _) _ _) (Nat.le_succ _) _ _) (Nat.le_succ _) _ _) (Nat.le_succ _) _ _) _ _
end Go.Proofs.YbulksesFmt
