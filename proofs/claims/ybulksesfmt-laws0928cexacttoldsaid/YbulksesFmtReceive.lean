/- PlausibleClock.Receive. -/
import Derived.Test.YbulksesFmtClock
namespace Go.Proofs.YbulksesFmt
open Go.RowKit Go.MuLone

/-- As Q, but no panic is borne: a region that draws its order inside a function that defers. -/
def noPanic (Q : Exit → Act → World → Prop) : Exit → Act → World → Prop
  | .panic _, _, _ => False
  | e, a, w => Q e a w

theorem wp_noPanic {P : Program} {c : Code} {Q : Exit → Act → World → Prop} {a : Act} {w : World} (h : Code.wp P c (noPanic Q) a w) : Code.wp P c Q a w :=
  wp_mono h (fun e a w q => by cases e <;> first | exact q | exact q.elim)

theorem noPanic_normal {Q : Exit → Act → World → Prop} {a : Act} {w : World} (h : Q .normal a w) : noPanic Q .normal a w := h

theorem below_of_drewN {w w2 : World} {q : Nat} (h : Below (w.drewN q).heap.size (w.drewN q) w2) : Below w.heap.size w w2 := ⟨h.os, h.tape, h.output, h.size, h.block⟩

theorem field35 (a b c d : Value) (w : World) : (Instr.field 35 (.agg #[a, b, c, d]) 0).run Ybaf.prog w = .ok (.agg #[a, b, c, d]) w := by kernel_rfl

theorem RowAt.grown {w w' : World} {ao : Option Addr} {n cb : Nat} {xs : List Int} (h : RowAt w ao n xs) (hg : w.grownBy w' (some cb)) (hne : ∀ b off, ao = some ⟨b, off, none⟩ → b ≠ cb) : RowAt w' ao n xs := by
  refine ⟨h.1, fun j hj => ?_⟩
  obtain ⟨b, off, e, hc⟩ := h.2 j hj
  exact ⟨b, off, e, hg.cell hc (by simp; exact hne b off e)⟩

theorem res_kept {w w2 w3 : World} {rb cb B : Nat} {o : Obj} (h : w.heap[rb]? = some o) (hb : Below B w w2) (hg : w2.grownBy w3 (some cb)) (h1 : rb < B) (h2 : rb ≠ cb) : w3.heap[rb]? = some o := by
  have hlt : rb < w.heap.size := by
    apply Nat.lt_of_not_le
    intro hge
    rw [Array.getElem?_eq_none hge] at h
    cases h
  rw [hg.block rb (Nat.lt_of_lt_of_le hlt hb.size) (by simp; exact h2), hb.block rb h1]
  exact h

set_option maxRecDepth 20000 in
set_option maxHeartbeats 2000000 in
theorem receive_ok (cb g n cap at_ e k uc : Nat) (uo : Option Addr) (nm : ByteArray) (p : Int) (hs A : List Int) (w : World) (C : Clk w cb nm e 0 (.slice (some ⟨g, 0, none⟩) n cap) at_ p) (hgc : g ≠ cb) (hnm : nm.toList.isEmpty = false) (hn : n ≤ 2000) (he : e < n) (ha : at_ = 0 ∨ at_ = e + 1) (hk : k ≤ n)
    (hown : w.ownsRow 0 31 1 (.slice (some ⟨g, 0, none⟩) n cap) n (hs.map (.int .u64))) (hA : RowAt w uo k A) (hAc : ∀ b off, uo = some ⟨b, off, none⟩ → b ≠ cb) (y : Int) (hy : (mxU (rd hs at_ p) A k).getD e 0 = y) (h0 : 0 ≤ y) (ho : y ≤ 18446744073709551614) :
    Calls Ybaf.prog 8 #[.pointer (some ⟨cb, 0, none⟩), .agg #[.slice uo k uc, .pointer none, .int .i64 0, .int .u64 0]] w fun x w' => ∃ mb, w.heap.size ≤ mb ∧
      x = .returned (.tuple #[.agg #[.slice (some ⟨mb, 0, none⟩) n n, .pointer none, .int .i64 ((e : Int) + 1), .int .u64 (y + 1)], .nilIface]) ∧ Clk w' cb nm e 0 (.slice (some ⟨mb, 0, none⟩) n n) (e + 1) (y + 1) ∧
        w'.ownsRow 0 31 1 (.slice (some ⟨mb, 0, none⟩) n n) n ((mxU (rd hs at_ p) A k).map (.int .u64)) ∧ w.grownBy w' (some cb) := by
  have hlt := C.lt
  obtain ⟨W1, hW1⟩ : ∃ W1, W1 = ((w.setCell ⟨cb, 2, none⟩ (.int .i32 1)).alloc (.cells #[.slice uo k uc, .pointer none, .int .i64 0, .int .u64 0] 35)).alloc (.cells #[.slice none 0 0, .pointer none, .int .i64 0, .int .u64 0] 35) := ⟨_, rfl⟩
  have hs1 : W1.heap.size = w.heap.size + 2 := by rw [hW1]; simp
  have hg1 : w.grownBy W1 (some cb) := by rw [hW1]; exact gb_alloc (gb_alloc (gb_set (gb_refl _ _) _ _) _) _
  have C1 : Clk W1 cb nm e 1 (.slice (some ⟨g, 0, none⟩) n cap) at_ p := by rw [hW1]; exact ((C.setMu 1).alloc _).alloc _
  have CU : CL W1 w.heap.size 0 (.slice uo k uc) 0 0 := by
    rw [hW1]
    have := (CL.boxed (w.setCell ⟨cb, 2, none⟩ (.int .i32 1)) (.slice uo k uc) 0 0 35).alloc (.cells #[.slice none 0 0, .pointer none, .int .i64 0, .int .u64 0] 35)
    simpa using this
  have hR1 : W1.heap[w.heap.size + 1]? = some (.cells #[.slice none 0 0, .pointer none, .int .i64 0, .int .u64 0] 35 (0, 0)) := by
    rw [hW1, show w.heap.size + 1 = ((w.setCell ⟨cb, 2, none⟩ (.int .i32 1)).alloc (.cells #[.slice uo k uc, .pointer none, .int .i64 0, .int .u64 0] 35)).heap.size by simp, heap_alloc_new]
  have hO1 : W1.ownsRow 0 31 1 (.slice (some ⟨g, 0, none⟩) n cap) n (hs.map (.int .u64)) := hown.kept hg1 (.inr (by simp [Value.ownBlock]; exact hgc))
  have hA1 : RowAt W1 uo k A := hA.grown hg1 hAc
  have c0 : w.cell? ⟨cb, 0, none⟩ = some (.string nm) := C.cell 0
  have HW1 := hideIt hW1
  clear hW1 hown hA
  have hy' := hideIt hy
  clear hy
  go_enter_defers Ybaf.func8, Ybaf.ntmps8
  go_wp2_with (go_at_call 19; refine (checkName_ok _ _ hnm).mono ?_; rintro x w' ⟨rfl, rfl⟩)
  have hlk := lock_free muLib ⟨cb, 2, none⟩ ((w.alloc (.cells #[.slice uo k uc, .pointer none, .int .i64 0, .int .u64 0] 35)).alloc (.cells #[.slice none 0 0, .pointer none, .int .i64 0, .int .u64 0] 35)) (((C.alloc _).alloc _).cell 2) (((C.alloc _).alloc _).frozen 2)
  go_fit hlk
  rintro x w' ⟨rfl, rfl⟩
  clear hlk
  go_upto_region 6 with fail
  rw [← HW1.out]
  have CN : CL W1 cb 4 (.slice (some ⟨g, 0, none⟩) n cap) at_ p := ⟨C1.cell 4, C1.cell 5, C1.cell 6, C1.cell 7⟩
  clear c0 HW1
  go_quiet (first
    | (go_at_call_of 16 (Value.pointer (some { block := w.heap.size, off := 0 })); exact Calls.quiet_of_same (len_any w.heap.size 0 uo k uc 0 0 _ (CU.drewN _)))
    | (go_at_call 16; exact Calls.quiet_of_same (len_any cb 4 (some ⟨g, 0, none⟩) n cap at_ p _ (CN.drewN _))))
  obtain ⟨n0, n1, n2, n3⟩ := CN
  obtain ⟨u0, u1, u2, u3⟩ := CU
  have hm := hideIt (fun q => merge_any g n cap at_ k uc uo p hs A (W1.drewN q) (by omega) hn (by omega) hk (own_drewN hO1 q) hA1)
  have hstep := hideIt (fun (mb : Nat) (w2 : World) (hb2 : Below W1.heap.size W1 w2) (hown2 : w2.ownsRow W1.heap.size 31 1 (.slice (some ⟨mb, 0, none⟩) n n) n ((mxU (rd hs at_ p) A k).map (.int .u64))) =>
    step_ok cb mb n n 0 e nm 0 (mxU (rd hs at_ p) A k) _ _ _ w2 (C1.below hb2 (by omega)) hn he (.inl rfl) (own_mono hown2 (Nat.zero_le _)) y (by rw [rd, if_pos rfl]; exact hy'.out) h0 ho)
  have hres := hideIt (fun (w2 w3 : World) (hb2 : Below W1.heap.size W1 w2) (hg3 : w2.grownBy w3 (some cb)) => Res.of (res_kept hR1 hb2 hg3 (by omega) (by omega)))
  have hfd := field35
  go_wp2_with fail
  refine wp_noPanic ?_
  go_region_with (first
    | (go_at_call 23; refine (hm.out _).mono ?_; rintro x w2 ⟨mb, rfl, hmb, hown2, hb2'⟩; have hb2 := below_of_drewN hb2')
    | (go_at_call 22; go_must (refine (hstep.out mb _ hb2 hown2).mono ?_; rintro x w3 ⟨rfl, C3, hg3⟩; obtain ⟨r0, r1, r2, r3, q0, q1, q2, q3⟩ := hres.out _ _ hb2 hg3)))
  all_goals
    refine noPanic_normal ?_
    have hmb' : w.heap.size + 2 ≤ mb := by have h : W1.heap.size ≤ mb := hmb; omega
    have hO3 := own_mono (hown2.kept hg3 (.inr (by simp [Value.ownBlock]; omega))) (Nat.zero_le _)
    have hgw := gb_trans (gb_trans hg1 (row := some cb) ⟨hb2.os, hb2.tape, hb2.output, hb2.size, fun k hk _ => hb2.block k hk⟩) hg3
    clear hstep hres hfd hm n0 n1 n2 n3 u0 u1 u2 u3 hown2 hb2 hb2' hg3 hg1 hR1 hO1 hA1 C1 hy'
    go_wp2_with fail
    refine leaves_cons (f := 21) (args := #[.pointer (some ⟨cb, 2, none⟩)]) (by simp) (by simp [go_sem]) ?_
    have C4 := C3.grown (gb_set (gb_set (gb_set (gb_set (gb_refl w3 (some (w.heap.size + 1))) 0 (.slice (some ⟨mb, 0, none⟩) n n)) 1 (.pointer none)) 2 (.int .i64 ((e : Int) + 1))) 3 (.int .u64 (y + 1))) (by simp; omega)
    refine (unlock_deferred muLib ⟨cb, 2, none⟩ .returning _ (C4.cell 2) (C4.frozen 2)).mono ?_
    rintro x u' w'' ⟨rfl, rfl, rfl⟩
    refine ⟨.tuple #[.agg #[.slice (some ⟨mb, 0, none⟩) n n, .pointer none, .int .i64 ((e : Int) + 1), .int .u64 (y + 1)], .nilIface], ?_, mb, by omega, rfl, C4.setMu 0, ?_, ?_⟩
    · simp [results, Ybaf.results8, go_sem, r0, r1, r2, r3]
    · exact own_set_other (own_set_other (own_set_other (own_set_other (own_set_other hO3 _ _ (by simp [Value.ownBlock]; omega) _) _ _ (by simp [Value.ownBlock]; omega) _) _ _ (by simp [Value.ownBlock]; omega) _) _ _ (by simp [Value.ownBlock]; omega) _) _ _ (by simp [Value.ownBlock]; omega) _
    · exact gb_set (gb_set_new (gb_set_new (gb_set_new (gb_set_new hgw (Nat.le_succ _) _ _) (Nat.le_succ _) _ _) (Nat.le_succ _) _ _) (Nat.le_succ _) _ _) _ _
end Go.Proofs.YbulksesFmt
