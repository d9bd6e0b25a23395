/- countList: clone; the empty list. -/
import Derived.Test.YbulksesFmtClone
namespace Go.Proofs.YbulksesFmt
open Go.RowKit

theorem make31 (n : Nat) (hn : n ≤ 2000) : ∀ w, (Instr.makeSlice 22 (.int .i64 0) (.int .i64 (n : Int))).run Ybaf.prog w = .ok (.slice (some ⟨w.heap.size, 0, none⟩) 0 n) (w.alloc (.cells (madeCells #[.int .u64 0] n) 31)) := by
  intro w
  obtain ⟨i, hi, hz0, hz1, hz2⟩ := info_parts info31
  have hr := run_make (P := Ybaf.prog) w 22 31 i _ Ybaf.underlying22 hi hz0 .i64 .i64 0 (n : Int) (by omega) (by omega) (by rw [hz2]; omega) (by omega)
  rw [hz1] at hr
  have e : ((n : Int)).toNat = n := by omega
  rw [e, Nat.mul_one] at hr
  exact hr

theorem CL.alloc {w : World} {b o : Nat} {v : Value} {at_ : Nat} {p : Int} (C : CL w b o v at_ p) (ob : Obj) : CL (w.alloc ob) b o v at_ p :=
  have hb : b < w.heap.size := World.block_lt_of_cell? _ _ C.c0
  ⟨(World.cell?_alloc_lt _ _ _ hb).trans C.c0, (World.cell?_alloc_lt _ _ _ hb).trans C.c1, (World.cell?_alloc_lt _ _ _ hb).trans C.c2, (World.cell?_alloc_lt _ _ _ hb).trans C.c3⟩

theorem below_drewN {B : Nat} {a w : World} (h : Below B a w) (n : Nat) : Below B a (w.drewN n) := ⟨h.os, h.tape, h.output, h.size, h.block⟩

set_option maxRecDepth 20000 in
set_option maxHeartbeats 2000000 in
theorem clone_any (b o g n cap at_ : Nat) (p : Int) (hs : List Int) (w : World) (C : CL w b o (.slice (some ⟨g, 0, none⟩) n cap) at_ p) (hn0 : 0 < n) (hn : n ≤ 2000) (ha : at_ ≤ n)
    (hown : w.ownsRow 0 31 1 (.slice (some ⟨g, 0, none⟩) n cap) n (hs.map (.int .u64))) :
    Calls Ybaf.prog 24 #[.pointer (some ⟨b, o, none⟩)] w
      fun e w' => e = .returned (.slice (some ⟨w.heap.size, 0, none⟩) n n) ∧ w'.ownsRow w.heap.size 31 1 (.slice (some ⟨w.heap.size, 0, none⟩) n n) n ((rd hs at_ p).map (.int .u64)) ∧ Below w.heap.size w w' := by
  have hmk := make31 n hn
  have hb : b < w.heap.size := World.block_lt_of_cell? _ _ C.c0
  have hd := World.ownsRow_made (base := w.heap.size) (e := 31) (size := 1) w (madeCells #[.int .u64 0] n) n (Nat.le_refl _) (by unfold maxLen; omega) (by simp [size_madeCells])
  have hO := hown.alloc (.cells (madeCells #[.int .u64 0] n) 31)
  go_enter Ybaf.func24, Ybaf.ntmps24
  go_wp2_with fail
  go_region_with (first
    | (go_at_call 16; refine (len_any b o (some ⟨g, 0, none⟩) n cap at_ p _ ?_).mono ?_; (first | exact C.drewN 1 | exact (C.alloc _).drewN 1); rintro e w' ⟨rfl, rfl⟩)
    | (go_at_call 34; refine (appendTo_any b o g n cap w.heap.size w.heap.size at_ p hs _ ?_ hn0 hn ha ?_ ?_ (by omega)).mono ?_; exact (C.alloc _).drewN 1; exact own_drewN hO 1; exact own_drewN hd 1; rintro e w' ⟨rfl, hx, hg⟩))
  all_goals
    try go_wp2
    go_ret
    exact ⟨rfl, hx, (show Below w.heap.size w ((w.alloc (.cells (madeCells #[.int .u64 0] n) 31)).drew) from ((Below.refl _ _).alloc (Nat.le_refl _) _).drew).grown hg (by simp) (fun k e => by cases e; exact Nat.le_refl _)⟩

set_option maxHeartbeats 1000000 in
theorem appendTo_zero (b o d : Nat) (w : World) (C : CL w b o (.slice none 0 0) 0 0) :
    Calls Ybaf.prog 34 #[.pointer (some ⟨b, o, none⟩), .slice (some ⟨d, 0, none⟩) 0 0, .int .i64 0, .int .i64 0] w
      fun e w' => e = .returned (.slice (some ⟨d, 0, none⟩) 0 0) ∧ ∃ k, w' = w.drewN k := by
  have C2 := C
  obtain ⟨c0, c1, c2, c3⟩ := C
  go_enter Ybaf.func34, Ybaf.ntmps34
  go_wp2_with fail
  go_loop [1, 10] (fun dv t => dv = .slice (some ⟨d, 0, none⟩) 0 0 ∧ t = .int .i64 0) (fun _ _ => 0)
  case atStart => exact ⟨rfl, rfl⟩
  case round =>
    obtain ⟨rfl, rfl⟩ := hrel
    go_wp2_with (go_at_call 43; go_must (refine (patched_any b o _ 0 0 _ C2 (by omega)).mono ?_; rintro e w' ⟨rfl, k, rfl⟩))
    go_ret
    exact ⟨rfl, _, rfl⟩

set_option maxRecDepth 20000 in
set_option maxHeartbeats 2000000 in
/-- The zero stamp's counts: none. -/
theorem clone_zero (b o : Nat) (w : World) (C : CL w b o (.slice none 0 0) 0 0) :
    Calls Ybaf.prog 24 #[.pointer (some ⟨b, o, none⟩)] w fun e w' => e = .returned (.slice (some ⟨w.heap.size, 0, none⟩) 0 0) ∧ Below w.heap.size w w' := by
  have hmk : ∀ w, (Instr.makeSlice 22 (.int .i64 0) (.int .i64 0)).run Ybaf.prog w = .ok (.slice (some ⟨w.heap.size, 0, none⟩) 0 0) (w.alloc (.cells (madeCells #[.int .u64 0] 0) 31)) := make31 0 (by omega)
  go_enter Ybaf.func24, Ybaf.ntmps24
  go_wp2_with fail
  go_region_with (first
    | (go_at_call 16; refine (len_any b o none 0 0 0 0 _ ?_).mono ?_; (first | exact C.drewN 1 | exact (C.alloc _).drewN 1); rintro e w' ⟨rfl, rfl⟩)
    | (go_at_call 34; refine (appendTo_zero b o w.heap.size _ ?_).mono ?_; exact (C.alloc _).drewN 1; rintro e w' ⟨rfl, k, rfl⟩))
  all_goals
    try go_wp2
    go_ret
    exact ⟨rfl, below_drewN ((Below.refl _ _).alloc (Nat.le_refl _) _) _⟩
end Go.Proofs.YbulksesFmt
