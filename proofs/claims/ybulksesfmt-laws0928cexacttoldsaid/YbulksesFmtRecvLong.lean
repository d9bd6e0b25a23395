/- PlausibleClock.Receive: too long a stamp. -/
import Derived.Test.YbulksesFmtReceive
namespace Go.Proofs.YbulksesFmt
open Go.RowKit Go.MuLone Go.Stop

set_option maxRecDepth 20000 in
set_option maxHeartbeats 2000000 in
theorem receive_long (F : Interp) (cb g n cap at_ e k uc : Nat) (uo : Option Addr) (nm : ByteArray) (p : Int) (w : World) (C : Clk w cb nm e 0 (.slice (some ⟨g, 0, none⟩) n cap) at_ p) (hF : F.answers w.tape) (hnm : nm.toList.isEmpty = false) (_hn : n ≤ 2000) (hk : n < k) (_hku : k ≤ 2000) :
    Calls Ybaf.prog 8 #[.pointer (some ⟨cb, 0, none⟩), .agg #[.slice uo k uc, .pointer none, .int .i64 0, .int .u64 0]] w fun x w' => ∃ pb, 
      x = .returned (.tuple #[.agg #[.slice none 0 0, .pointer none, .int .i64 0, .int .u64 0], .iface 93 (.pointer (some ⟨pb, 0, none⟩))]) ∧ w.heap.size ≤ pb ∧
        Clk w' cb nm e 0 (.slice (some ⟨g, 0, none⟩) n cap) at_ p ∧ w.grownBy w' (some cb) := by
  have hlt := C.lt
  obtain ⟨W1, hW1⟩ : ∃ W1, W1 = ((w.setCell ⟨cb, 2, none⟩ (.int .i32 1)).alloc (.cells #[.slice uo k uc, .pointer none, .int .i64 0, .int .u64 0] 35)).alloc (.cells #[.slice none 0 0, .pointer none, .int .i64 0, .int .u64 0] 35) := ⟨_, rfl⟩
  have hs1 : W1.heap.size = w.heap.size + 2 := by rw [hW1]; simp
  have hg1 : w.grownBy W1 (some cb) := by rw [hW1]; exact gb_alloc (gb_alloc (gb_set (gb_refl _ _) _ _) _) _
  have C1 : Clk W1 cb nm e 1 (.slice (some ⟨g, 0, none⟩) n cap) at_ p := by rw [hW1]; exact ((C.setMu 1).alloc _).alloc _
  have CU : CL W1 w.heap.size 0 (.slice uo k uc) 0 0 := by
    rw [hW1]
    have := (CL.boxed (w.setCell ⟨cb, 2, none⟩ (.int .i32 1)) (.slice uo k uc) 0 0 35).alloc (.cells #[.slice none 0 0, .pointer none, .int .i64 0, .int .u64 0] 35)
    simpa using this
  have hR1 : W1.heap[w.heap.size + 1]? = some (.cells #[.slice none 0 0, .pointer none, .int .i64 0, .int .u64 0] 35 (0, 0)) := by
    rw [hW1, show w.heap.size + 1 = ((w.setCell ⟨cb, 2, none⟩ (.int .i32 1)).alloc (.cells #[.slice uo k uc, .pointer none, .int .i64 0, .int .u64 0] 35)).heap.size by simp, heap_alloc_new]
  have c0 : w.cell? ⟨cb, 0, none⟩ = some (.string nm) := C.cell 0
  have HW1 := hideIt hW1
  have hF1 : F.answers W1.tape := by rw [hg1.tape]; exact hF
  clear hW1
  go_enter_defers Ybaf.func8, Ybaf.ntmps8
  go_wp2_with (go_at_call 19; refine (checkName_ok _ _ hnm).mono ?_; rintro x w' ⟨rfl, rfl⟩)
  have hlk := lock_free muLib ⟨cb, 2, none⟩ ((w.alloc (.cells #[.slice uo k uc, .pointer none, .int .i64 0, .int .u64 0] 35)).alloc (.cells #[.slice none 0 0, .pointer none, .int .i64 0, .int .u64 0] 35)) (((C.alloc _).alloc _).cell 2) (((C.alloc _).alloc _).frozen 2)
  go_fit hlk
  rintro x w' ⟨rfl, rfl⟩
  clear hlk
  go_upto_region 6 with fail
  rw [← HW1.out]
  have CN : CL W1 cb 4 (.slice (some ⟨g, 0, none⟩) n cap) at_ p := ⟨C1.cell 4, C1.cell 5, C1.cell 6, C1.cell 7⟩
  clear HW1
  go_quiet (first
    | (go_at_call_of 16 (Value.pointer (some { block := w.heap.size, off := 0 })); exact Calls.quiet_of_same (len_any w.heap.size 0 uo k uc 0 0 _ (CU.drewN _)))
    | (go_at_call 16; exact Calls.quiet_of_same (len_any cb 4 (some ⟨g, 0, none⟩) n cap at_ p _ (CN.drewN _))))
  have c0' : W1.cell? ⟨cb, 0, none⟩ = some (.string nm) := C1.cell 0
  have hl1 := hideIt (fun q => len_any w.heap.size 0 uo k uc 0 0 _ (CU.drewN q))
  have hl2 := hideIt (fun q => len_any cb 4 (some ⟨g, 0, none⟩) n cap at_ p _ (CN.drewN q))
  obtain ⟨r0, r1, r2, r3, q0, q1, q2, q3⟩ := Res.of hR1
  obtain ⟨n0, n1, n2, n3⟩ := CN
  obtain ⟨u0, u1, u2, u3⟩ := CU
  have hfd := field35
  have herr := hideIt (fun q => errorf3 F nm k n (w.heap.size + 2) ((W1.drewN q).alloc (.cells #[.iface 9 (.string nm), .iface 3 (.int .i64 k), .iface 3 (.int .i64 n)] 20)) hF1 (by rw [← hs1]; exact cell_of_row _ _ 0 _ _ _ (heap_alloc_new _ _)) (by rw [← hs1]; exact cell_of_row _ _ 1 _ _ _ (heap_alloc_new _ _)) (by rw [← hs1]; exact cell_of_row _ _ 2 _ _ _ (heap_alloc_new _ _)))
  go_wp2_with fail
  refine wp_noPanic ?_
  go_region_with (first
    | (go_at_call_of 16 (Value.pointer (some { block := w.heap.size, off := 0 })); go_must (refine (hl1.out _).mono ?_; rintro x w' ⟨rfl, rfl⟩))
    | (go_at_call 16; go_must (refine (hl2.out _).mono ?_; rintro x w' ⟨rfl, rfl⟩))
    | (go_at_call 17; go_must (refine (herr.out _).mono ?_; rintro x w' ⟨o, rfl, rfl⟩)))
  all_goals
    refine noPanic_normal ?_
    clear hl1 hl2 herr hfd n0 n1 n2 n3 u0 u1 u2 u3
    go_wp2_with fail
    refine leaves_cons (f := 21) (args := #[.pointer (some ⟨cb, 2, none⟩)]) (by simp) (by simp [go_sem]) ?_
    have C4 := ((((C1.drewN (nq + 1)).grown (gb_set (gb_set (gb_set (gb_set (gb_refl _ (some (w.heap.size + 1))) 0 (.slice none 0 0)) 1 (.pointer none)) 2 (.int .i64 0)) 3 (.int .u64 0)) (by simp; omega)).alloc (.cells #[.iface 9 (.string nm), .iface 3 (.int .i64 k), .iface 3 (.int .i64 n)] 20)).alloc o).drewN 1
    refine (unlock_deferred muLib ⟨cb, 2, none⟩ .returning _ (C4.cell 2) (C4.frozen 2)).mono ?_
    rintro x u' w'' ⟨rfl, rfl, rfl⟩
    refine ⟨.tuple #[.agg #[.slice none 0 0, .pointer none, .int .i64 0, .int .u64 0], .iface 93 (.pointer (some ⟨w.heap.size + 2 + 1, 0, none⟩))], ?_, w.heap.size + 2 + 1, rfl, by omega, C4.setMu 0, ?_⟩
    · simp [results, Ybaf.results8, go_sem, r0, r1, r2, r3, World.cell?_alloc_lt, hs1]
    · exact gb_set (gb_drewN (gb_alloc (gb_alloc (gb_set_new (gb_set_new (gb_set_new (gb_set_new (gb_drewN hg1 (nq + 1)) (Nat.le_succ _) _ _) (Nat.le_succ _) _ _) (Nat.le_succ _) _ _) (Nat.le_succ _) _ _) _) _) 1) _ _
end Go.Proofs.YbulksesFmt
