/- PlausibleClock: Now, Local, Receive. -/
import Derived.Test.YbulksesFmtMerge
import Derived.Test.YbulksesFmtLocks
import Derived.Conc.MuLone
import Derived.Defers
namespace Go.Proofs.YbulksesFmt
open Go.RowKit Go.MuLone

set_option maxRecDepth 20000 in
set_option maxHeartbeats 2000000 in
theorem now_any (cb at_ e n cap : Nat) (ao : Option Addr) (nm : ByteArray) (p : Int) (w : World) (C : Clk w cb nm e 0 (.slice ao n cap) at_ p) :
    Calls Ybaf.prog 13 #[.pointer (some ⟨cb, 0, none⟩)] w fun x w' => x = .returned (.agg #[.slice ao n cap, .pointer none, .int .i64 at_, .int .u64 p]) ∧ Clk w' cb nm e 0 (.slice ao n cap) at_ p ∧ w.grownBy w' (some cb) := by
  have hlt := C.lt
  have c2 : w.cell? ⟨cb, 2, none⟩ = some (.int .i32 0) := C.cell 2
  have c4 : w.cell? ⟨cb, 4, none⟩ = some (.slice ao n cap) := C.cell 4
  have c5 : w.cell? ⟨cb, 5, none⟩ = some (.pointer none) := C.cell 5
  have c6 : w.cell? ⟨cb, 6, none⟩ = some (.int .i64 at_) := C.cell 6
  have c7 : w.cell? ⟨cb, 7, none⟩ = some (.int .u64 p) := C.cell 7
  have f2 := C.frozen 2
  go_enter_defers Ybaf.func13, Ybaf.ntmps13
  go_wp2_with fail
  have hlk := lock_free muLib ⟨cb, 2, none⟩ (w.alloc (.cells #[.slice none 0 0, .pointer none, .int .i64 0, .int .u64 0] 35)) ((C.alloc _).cell 2) ((C.alloc _).frozen 2)
  go_fit hlk
  rintro x w' ⟨rfl, rfl⟩
  clear hlk
  go_wp2_with fail
  refine leaves_cons (f := 21) (args := #[.pointer (some ⟨cb, 2, none⟩)]) (by simp) (by simp [go_sem]) ?_
  have C1 := (C.setMu 1).alloc (.cells #[.slice ao n cap, .pointer none, .int .i64 at_, .int .u64 p] 35)
  refine (unlock_deferred muLib ⟨cb, 2, none⟩ .returning _ (C1.cell 2) (C1.frozen 2)).mono ?_
  rintro x u' w'' ⟨rfl, rfl, rfl⟩
  refine ⟨.agg #[.slice ao n cap, .pointer none, .int .i64 at_, .int .u64 p], ?_, rfl, ?_, ?_⟩
  · simp [results, Ybaf.results13, go_sem]
  · exact C1.setMu 0
  · exact gb_set (gb_alloc (gb_set (gb_refl _ _) _ _) _) _ _

set_option maxRecDepth 20000 in
set_option maxHeartbeats 2000000 in
theorem local_ok (cb g n cap at_ e : Nat) (nm : ByteArray) (p : Int) (hs : List Int) (w : World) (C : Clk w cb nm e 0 (.slice (some ⟨g, 0, none⟩) n cap) at_ p) (hgc : g ≠ cb) (hnm : nm.toList.isEmpty = false) (hn : n ≤ 2000) (he : e < n) (ha : at_ = 0 ∨ at_ = e + 1)
    (hown : w.ownsRow 0 31 1 (.slice (some ⟨g, 0, none⟩) n cap) n (hs.map (.int .u64))) (y : Int) (hy : (rd hs at_ p).getD e 0 = y) (h0 : 0 ≤ y) (ho : y ≤ 18446744073709551614) :
    Calls Ybaf.prog 14 #[.pointer (some ⟨cb, 0, none⟩)] w fun x w' =>
      x = .returned (.tuple #[.agg #[.slice (some ⟨g, 0, none⟩) n cap, .pointer none, .int .i64 ((e : Int) + 1), .int .u64 (y + 1)], .nilIface]) ∧ Clk w' cb nm e 0 (.slice (some ⟨g, 0, none⟩) n cap) (e + 1) (y + 1) ∧ w.grownBy w' (some cb) := by
  have hlt := C.lt
  have c0 : w.cell? ⟨cb, 0, none⟩ = some (.string nm) := C.cell 0
  have c2 : w.cell? ⟨cb, 2, none⟩ = some (.int .i32 0) := C.cell 2
  have c4 : w.cell? ⟨cb, 4, none⟩ = some (.slice (some ⟨g, 0, none⟩) n cap) := C.cell 4
  have c5 : w.cell? ⟨cb, 5, none⟩ = some (.pointer none) := C.cell 5
  have c6 : w.cell? ⟨cb, 6, none⟩ = some (.int .i64 at_) := C.cell 6
  have c7 : w.cell? ⟨cb, 7, none⟩ = some (.int .u64 p) := C.cell 7
  have f2 := C.frozen 2
  have hO := hideIt ((own_set_other hown cb 2 (by simp [Value.ownBlock]; exact hgc) (.int .i32 1)).alloc (.cells #[.slice none 0 0, .pointer none, .int .i64 0, .int .u64 0] 35))
  clear hown
  go_enter_defers Ybaf.func14, Ybaf.ntmps14
  go_wp2_with (go_at_call 19; refine (checkName_ok _ _ hnm).mono ?_; rintro x w' ⟨rfl, rfl⟩)
  have hlk := lock_free muLib ⟨cb, 2, none⟩ (w.alloc (.cells #[.slice none 0 0, .pointer none, .int .i64 0, .int .u64 0] 35)) ((C.alloc _).cell 2) ((C.alloc _).frozen 2)
  go_fit hlk
  rintro x w' ⟨rfl, rfl⟩
  clear hlk
  go_wp2_with fail
  have C1 := (C.setMu 1).alloc (.cells #[.slice none 0 0, .pointer none, .int .i64 0, .int .u64 0] 35)
  have hst := step_ok cb g n cap at_ e nm p hs _ _ _ _ C1 hn he ha hO.out y hy h0 ho
  go_fit hst
  rintro x w2 ⟨rfl, C2, hg2⟩
  have hR : w2.heap[w.heap.size]? = some (.cells #[.slice none 0 0, .pointer none, .int .i64 0, .int .u64 0] 35 (0, 0)) := by
    rw [hg2.block w.heap.size (by simp) (by simp; omega), show w.heap.size = (w.setCell ⟨cb, 2, none⟩ (.int .i32 1)).heap.size by simp, heap_alloc_new]
  have hsz : w.heap.size + 1 ≤ w2.heap.size := by have := hg2.size; simpa using this
  obtain ⟨r0, r1, r2, r3, q0, q1, q2, q3⟩ := Res.of hR
  clear hst c0 c2 c4 c5 c6 c7 f2 hy hO C1
  go_wp2_with fail
  refine leaves_cons (f := 21) (args := #[.pointer (some ⟨cb, 2, none⟩)]) (by simp) (by simp [go_sem]) ?_
  have C3 := C2.grown (gb_set (gb_set (gb_set (gb_set (gb_refl w2 (some w.heap.size)) 0 (.slice (some ⟨g, 0, none⟩) n cap)) 1 (.pointer none)) 2 (.int .i64 ((e : Int) + 1))) 3 (.int .u64 (y + 1))) (by simp; omega)
  refine (unlock_deferred muLib ⟨cb, 2, none⟩ .returning _ (C3.cell 2) (C3.frozen 2)).mono ?_
  rintro x u' w'' ⟨rfl, rfl, rfl⟩
  refine ⟨.tuple #[.agg #[.slice (some ⟨g, 0, none⟩) n cap, .pointer none, .int .i64 ((e : Int) + 1), .int .u64 (y + 1)], .nilIface], ?_, rfl, C3.setMu 0, ?_⟩
  · simp [results, Ybaf.results14, go_sem, r0, r1, r2, r3]
  · have hg1 := gb_trans (gb_alloc (gb_set (gb_refl w (some cb)) 2 (.int .i32 1)) (.cells #[.slice none 0 0, .pointer none, .int .i64 0, .int .u64 0] 35)) hg2
    exact gb_set (gb_set_new (gb_set_new (gb_set_new (gb_set_new hg1 (Nat.le_refl _) _ _) (Nat.le_refl _) _ _) (Nat.le_refl _) _ _) (Nat.le_refl _) _ _) _ _

open Go.Stop in
set_option maxRecDepth 20000 in
set_option maxHeartbeats 2000000 in
theorem local_over (F : Interp) (cb g n cap at_ e : Nat) (nm : ByteArray) (p : Int) (hs : List Int) (w : World) (sa : Addr) (st : ByteArray) (C : Clk w cb nm e 0 (.slice (some ⟨g, 0, none⟩) n cap) at_ p) (hF : F.answers w.tape) (S : Sent w sa st) (hc0 : cb ≠ 0) (hcs : cb ≠ sa.block)
    (hgc : g ≠ cb) (hnm : nm.toList.isEmpty = false) (hn : n ≤ 2000) (he : e < n) (ha : at_ = 0 ∨ at_ = e + 1)
    (hown : w.ownsRow 0 31 1 (.slice (some ⟨g, 0, none⟩) n cap) n (hs.map (.int .u64))) (hy : (rd hs at_ p).getD e 0 = 18446744073709551615) :
    Calls Ybaf.prog 14 #[.pointer (some ⟨cb, 0, none⟩)] w fun x w' =>
      ∃ pb, x = .returned (.tuple #[.agg #[.slice none 0 0, .pointer none, .int .i64 0, .int .u64 0], .iface 77 (.pointer (some ⟨pb, 0, none⟩))]) ∧ w'.cell? ⟨pb, 1, none⟩ = some (.iface 93 (.pointer (some sa))) ∧ w.heap.size ≤ pb ∧
        Clk w' cb nm e 0 (.slice (some ⟨g, 0, none⟩) n cap) at_ p ∧ w.grownBy w' (some cb) := by
  have hlt := C.lt
  have c0 : w.cell? ⟨cb, 0, none⟩ = some (.string nm) := C.cell 0
  have c2 : w.cell? ⟨cb, 2, none⟩ = some (.int .i32 0) := C.cell 2
  have c4 : w.cell? ⟨cb, 4, none⟩ = some (.slice (some ⟨g, 0, none⟩) n cap) := C.cell 4
  have c5 : w.cell? ⟨cb, 5, none⟩ = some (.pointer none) := C.cell 5
  have c6 : w.cell? ⟨cb, 6, none⟩ = some (.int .i64 at_) := C.cell 6
  have c7 : w.cell? ⟨cb, 7, none⟩ = some (.int .u64 p) := C.cell 7
  have f2 := C.frozen 2
  have hO := hideIt ((own_set_other hown cb 2 (by simp [Value.ownBlock]; exact hgc) (.int .i32 1)).alloc (.cells #[.slice none 0 0, .pointer none, .int .i64 0, .int .u64 0] 35))
  have hg0 := hideIt (gb_alloc (gb_set (gb_refl w (some cb)) 2 (.int .i32 1)) (.cells #[.slice none 0 0, .pointer none, .int .i64 0, .int .u64 0] 35))
  have HY := hideIt hy
  have hS := hideIt S
  clear hown hy S
  go_enter_defers Ybaf.func14, Ybaf.ntmps14
  go_wp2_with (go_at_call 19; refine (checkName_ok _ _ hnm).mono ?_; rintro x w' ⟨rfl, rfl⟩)
  have hlk := lock_free muLib ⟨cb, 2, none⟩ (w.alloc (.cells #[.slice none 0 0, .pointer none, .int .i64 0, .int .u64 0] 35)) ((C.alloc _).cell 2) ((C.alloc _).frozen 2)
  go_fit hlk
  rintro x w' ⟨rfl, rfl⟩
  clear hlk
  go_wp2_with fail
  have C1 := (C.setMu 1).alloc (.cells #[.slice none 0 0, .pointer none, .int .i64 0, .int .u64 0] 35)
  have hst := step_over F cb g n cap at_ e nm p hs _ _ _ _ sa st C1 hF (hS.out.grown hg0.out hc0 hcs) hn he ha hO.out HY.out
  go_fit hst
  rintro x w2 ⟨pb, rfl, hpb, hpl, hb2⟩
  have hpl' : w.heap.size + 1 ≤ pb := by simpa using hpl
  have hR : w2.heap[w.heap.size]? = some (.cells #[.slice none 0 0, .pointer none, .int .i64 0, .int .u64 0] 35 (0, 0)) := by
    rw [hb2.block w.heap.size (by simp), show w.heap.size = (w.setCell ⟨cb, 2, none⟩ (.int .i32 1)).heap.size by simp, heap_alloc_new]
  have C2 := C1.below hb2 (by simp; omega)
  have hg2 := gb_trans hg0.out (row := some cb) ⟨hb2.os, hb2.tape, hb2.output, hb2.size, fun k hk _ => hb2.block k hk⟩
  obtain ⟨r0, r1, r2, r3, q0, q1, q2, q3⟩ := Res.of hR
  clear hst c0 c2 c4 c5 c6 c7 f2 hO C1 hb2 hg0 hS
  go_wp2_with fail
  refine leaves_cons (f := 21) (args := #[.pointer (some ⟨cb, 2, none⟩)]) (by simp) (by simp [go_sem]) ?_
  have C3 := C2.grown (gb_set (gb_set (gb_set (gb_set (gb_refl w2 (some w.heap.size)) 0 (.slice none 0 0)) 1 (.pointer none)) 2 (.int .i64 0)) 3 (.int .u64 0)) (by simp; omega)
  refine (unlock_deferred muLib ⟨cb, 2, none⟩ .returning _ (C3.cell 2) (C3.frozen 2)).mono ?_
  rintro x u' w'' ⟨rfl, rfl, rfl⟩
  refine ⟨.tuple #[.agg #[.slice none 0 0, .pointer none, .int .i64 0, .int .u64 0], .iface 77 (.pointer (some ⟨pb, 0, none⟩))], ?_, pb, rfl, ?_, by omega, C3.setMu 0, ?_⟩
  · simp [results, Ybaf.results14, go_sem, r0, r1, r2, r3]
  · rw [World.cell?_setCell_other _ _ _ _ (by simp <;> omega), World.cell?_setCell_other _ _ _ _ (by simp <;> omega), World.cell?_setCell_other _ _ _ _ (by simp <;> omega), World.cell?_setCell_other _ _ _ _ (by simp <;> omega), World.cell?_setCell_other _ _ _ _ (by simp <;> omega)]
    exact hpb
  · exact gb_set (gb_set_new (gb_set_new (gb_set_new (gb_set_new hg2 (Nat.le_refl _) _ _) (Nat.le_refl _) _ _) (Nat.le_refl _) _ _) (Nat.le_refl _) _ _) _ _
end Go.Proofs.YbulksesFmt
