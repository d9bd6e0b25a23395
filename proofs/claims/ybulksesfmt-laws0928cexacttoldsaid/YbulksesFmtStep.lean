/- PlausibleClock.step. -/
import Derived.Test.YbulksesFmtNew
import Derived.Test.YbulksesFmtFmt
import Derived.Deep.DeepFit
namespace Go.Proofs.YbulksesFmt
open Go.RowKit

/-- The clock's block: eight cells. -/
def Clk (w : World) (cb : Nat) (nm : ByteArray) (e : Nat) (mu : Int) (v : Value) (at_ : Nat) (p : Int) : Prop :=
  w.heap[cb]? = some (.cells #[.string nm, .int .i64 e, .int .i32 mu, .int .u32 0, v, .pointer none, .int .i64 at_, .int .u64 p] 62 (0, 0))

theorem Clk.cell {w : World} {cb : Nat} {nm : ByteArray} {e : Nat} {mu : Int} {v : Value} {at_ : Nat} {p : Int} (C : Clk w cb nm e mu v at_ p) (i : Nat) : w.cell? ⟨cb, i, none⟩ = #[Value.string nm, .int .i64 e, .int .i32 mu, .int .u32 0, v, .pointer none, .int .i64 at_, .int .u64 p][i]? :=
  cell_of_row w cb i _ _ _ C
theorem Clk.frozen {w : World} {cb : Nat} {nm : ByteArray} {e : Nat} {mu : Int} {v : Value} {at_ : Nat} {p : Int} (C : Clk w cb nm e mu v at_ p) (i : Nat) : w.frozen? ⟨cb, i, none⟩ = false :=
  frozen_of_row w cb i _ _ C
theorem Clk.lt {w : World} {cb : Nat} {nm : ByteArray} {e : Nat} {mu : Int} {v : Value} {at_ : Nat} {p : Int} (C : Clk w cb nm e mu v at_ p) : cb < w.heap.size := World.block_lt_of_cell? _ _ (C.cell 0)
theorem Clk.grown {w w' : World} {cb : Nat} {nm : ByteArray} {e : Nat} {mu : Int} {v : Value} {at_ : Nat} {p : Int} (C : Clk w cb nm e mu v at_ p) {row : Option Nat} (hg : w.grownBy w' row) (hne : some cb ≠ row) : Clk w' cb nm e mu v at_ p :=
  (hg.block cb C.lt hne).trans C
theorem Clk.below {w w' : World} {cb B : Nat} {nm : ByteArray} {e : Nat} {mu : Int} {v : Value} {at_ : Nat} {p : Int} (C : Clk w cb nm e mu v at_ p) (hb : Below B w w') (h : cb < B) : Clk w' cb nm e mu v at_ p :=
  (hb.block cb h).trans C
theorem Clk.alloc {w : World} {cb : Nat} {nm : ByteArray} {e : Nat} {mu : Int} {v : Value} {at_ : Nat} {p : Int} (C : Clk w cb nm e mu v at_ p) (o : Obj) : Clk (w.alloc o) cb nm e mu v at_ p :=
  C.grown (World.grownBy_alloc w o none) (by simp)
theorem Clk.drewN {w : World} {cb : Nat} {nm : ByteArray} {e : Nat} {mu : Int} {v : Value} {at_ : Nat} {p : Int} (C : Clk w cb nm e mu v at_ p) (n : Nat) : Clk (w.drewN n) cb nm e mu v at_ p := C
theorem Clk.setMu {w : World} {cb : Nat} {nm : ByteArray} {e : Nat} {mu : Int} {v : Value} {at_ : Nat} {p : Int} (C : Clk w cb nm e mu v at_ p) (m : Int) : Clk (w.setCell ⟨cb, 2, none⟩ (.int .i32 m)) cb nm e m v at_ p :=
  heap_setCell_same w cb 2 _ _ _ C
theorem Clk.setNow {w : World} {cb : Nat} {nm : ByteArray} {e : Nat} {mu : Int} {v : Value} {at_ : Nat} {p : Int} (C : Clk w cb nm e mu v at_ p) (v' : Value) (a' : Nat) (p' : Int) :
    Clk ((((w.setCell ⟨cb, 4, none⟩ v').setCell ⟨cb, 5, none⟩ (.pointer none)).setCell ⟨cb, 6, none⟩ (.int .i64 a')).setCell ⟨cb, 7, none⟩ (.int .u64 p')) cb nm e mu v' a' p' := by
  have h1 := heap_setCell_same w cb 4 _ _ v' C
  have h2 := heap_setCell_same _ cb 5 _ _ (.pointer none) h1
  have h3 := heap_setCell_same _ cb 6 _ _ (.int .i64 a') h2
  exact heap_setCell_same _ cb 7 _ _ (.int .u64 p') h3

theorem gb_set {a w : World} {b : Nat} (h : a.grownBy w (some b)) (i : Nat) (v : Value) : a.grownBy (w.setCell ⟨b, i, none⟩ v) (some b) :=
  gb_trans h ⟨rfl, rfl, rfl, by simp, fun k _ hk => heap_setCell_other _ _ _ _ (by intro e; exact hk (by simp [e]))⟩
theorem gb_set_new {a w : World} {row : Option Nat} (h : a.grownBy w row) {b : Nat} (hb : a.heap.size ≤ b) (i : Nat) (v : Value) : a.grownBy (w.setCell ⟨b, i, none⟩ v) row :=
  ⟨h.os, h.tape, h.output, by simpa using h.size, fun k hk hn => (heap_setCell_other _ _ _ _ (by simp; omega)).trans (h.block k hk hn)⟩
theorem gb_alloc {a w : World} {row : Option Nat} (h : a.grownBy w row) (o : Obj) : a.grownBy (w.alloc o) row := gb_trans h (World.grownBy_alloc w o row)

theorem boxed_frozen (w : World) (v : Value) (at_ : Nat) (p : Int) (t : TypeId) (o : Obj) (i : Nat) : ((w.alloc (.cells #[v, .pointer none, .int .i64 at_, .int .u64 p] t)).alloc o).frozen? ⟨w.heap.size, i, none⟩ = false := by
  refine frozen_of_row _ _ _ #[v, .pointer none, .int .i64 at_, .int .u64 p] t ?_
  rw [heap_alloc_old _ _ (by simp), heap_alloc_new]

/-- Forget how the world came about; keep what is known of it. -/
theorem wp_world {P : Program} {c : Code} {Q : Exit → Act → World → Prop} {a : Act} {w : World} (F : World → Prop) (h : F w) (k : ∀ W, F W → Code.wp P c Q a W) : Code.wp P c Q a w := k w h

theorem rd_len (hs : List Int) (at_ : Nat) (p : Int) : (rd hs at_ p).length = hs.length := by unfold rd; split <;> simp

theorem get_any (b o g n cap at_ e : Nat) (p : Int) (hs : List Int) (w : World) (C : CL w b o (.slice (some ⟨g, 0, none⟩) n cap) at_ p) (hn : n ≤ 2000) (he : e < n) (ha : at_ = 0 ∨ at_ = e + 1)
    (hown : w.ownsRow 0 31 1 (.slice (some ⟨g, 0, none⟩) n cap) n (hs.map (.int .u64))) :
    Calls Ybaf.prog 31 #[.pointer (some ⟨b, o, none⟩), .int .i64 e] w fun x w' => x = .returned (.int .u64 ((rd hs at_ p).getD e 0)) ∧ w' = w := by
  have hl : hs.length = n := by have := hown.1; simpa using this
  rcases ha with rfl | rfl
  · have := own_get hown e he
    exact get_head b o g 0 n cap 0 e p _ w C (by omega) he (by omega) (by rw [Nat.zero_add]; exact this)
  · have h2 : (rd hs (e + 1) p).getD e 0 = p := by
      rw [rd, if_neg (by omega), Nat.add_sub_cancel, getD_set _ _ _ _ (by omega), if_pos rfl]
    rw [h2]
    exact get_patch b o _ (e + 1) e p w C rfl (by omega)

set_option maxRecDepth 20000 in
set_option maxHeartbeats 2000000 in
theorem step_ok (cb g n cap at_ e : Nat) (nm : ByteArray) (p : Int) (hs : List Int) (v0 : Value) (a0 : Nat) (p0 : Int) (w : World) (C : Clk w cb nm e 1 v0 a0 p0) (hn : n ≤ 2000) (he : e < n) (ha : at_ = 0 ∨ at_ = e + 1)
    (hown : w.ownsRow 0 31 1 (.slice (some ⟨g, 0, none⟩) n cap) n (hs.map (.int .u64))) (y : Int) (hy : (rd hs at_ p).getD e 0 = y) (h0 : 0 ≤ y) (ho : y ≤ 18446744073709551614) :
    Calls Ybaf.prog 22 #[.pointer (some ⟨cb, 0, none⟩), .agg #[.slice (some ⟨g, 0, none⟩) n cap, .pointer none, .int .i64 at_, .int .u64 p]] w fun x w' =>
      x = .returned (.tuple #[.agg #[.slice (some ⟨g, 0, none⟩) n cap, .pointer none, .int .i64 ((e : Int) + 1), .int .u64 (y + 1)], .nilIface]) ∧ Clk w' cb nm e 1 (.slice (some ⟨g, 0, none⟩) n cap) (e + 1) (y + 1) ∧ w.grownBy w' (some cb) := by
  have hlt := C.lt
  have c0 : w.cell? ⟨cb, 0, none⟩ = some (.string nm) := C.cell 0
  have c1 : w.cell? ⟨cb, 1, none⟩ = some (.int .i64 e) := C.cell 1
  have c4 : w.cell? ⟨cb, 4, none⟩ = some v0 := C.cell 4
  have c5 : w.cell? ⟨cb, 5, none⟩ = some (.pointer none) := C.cell 5
  have c6 : w.cell? ⟨cb, 6, none⟩ = some (.int .i64 a0) := C.cell 6
  have c7 : w.cell? ⟨cb, 7, none⟩ = some (.int .u64 p0) := C.cell 7
  have f4 := C.frozen 4
  have f5 := C.frozen 5
  have f6 := C.frozen 6
  have f7 := C.frozen 7
  have hB := hideIt (CL.boxed w (.slice (some ⟨g, 0, none⟩) n cap) at_ p 33)
  have hO := hideIt (hown.alloc (.cells #[.slice (some ⟨g, 0, none⟩) n cap, .pointer none, .int .i64 at_, .int .u64 p] 33))
  have HY := hideIt hy
  have hne : (y == 18446744073709551615) = false := by simp; omega
  clear hy
  go_enter Ybaf.func22, Ybaf.ntmps22
  go_wp2_with fail
  refine (get_any w.heap.size 0 g n cap at_ e p hs _ (hB.out.alloc _) hn he ha (hO.out.alloc _)).mono ?_
  rintro x w' ⟨rfl, rfl⟩
  rw [HY.out]
  go_wp2_with fail
  have hC1 := hB.out.alloc (.cells #[.slice none 0 0, .pointer none, .int .i64 0, .int .u64 0] 35)
  have hF1 := boxed_frozen w (.slice (some ⟨g, 0, none⟩) n cap) at_ p 33 (.cells #[.slice none 0 0, .pointer none, .int .i64 0, .int .u64 0] 35)
  have hset := set_any w.heap.size 0 (.slice (some ⟨g, 0, none⟩) n cap) at_ e p (y + 1) _ hC1 ha (by omega) (hF1 2) (hF1 3)
  clear hC1 hF1
  go_fit hset
  intro x w' hx
  obtain ⟨rfl, k, hk⟩ := hx
  subst hk
  clear hset hB hO
  go_upto_region 6 with fail
  refine wp_world (fun W => Clk W cb nm e 1 (.slice (some ⟨g, 0, none⟩) n cap) (e + 1) (y + 1) ∧ w.grownBy W (some cb) ∧ W.heap[w.heap.size + 1]? = some (.cells #[.slice none 0 0, .pointer none, .int .i64 0, .int .u64 0] 35 (0, 0))) ?_ ?_
  · refine ⟨?_, ?_, ?_⟩
    · exact Clk.setNow (Clk.drewN ((C.alloc _).alloc _) _) _ (e + 1) _
    · exact gb_set (gb_set (gb_set (gb_set (gb_drewN (gb_alloc (gb_alloc (gb_refl _ _) _) _) _) _ _) _ _) _ _) _ _
    · rw [heap_setCell_other _ _ _ _ (by simp; omega), heap_setCell_other _ _ _ _ (by simp; omega), heap_setCell_other _ _ _ _ (by simp; omega), heap_setCell_other _ _ _ _ (by simp; omega)]
      exact heap_alloc2_new w _ _
  rintro W ⟨C', hg, hR⟩
  have d4 : W.cell? ⟨cb, 4, none⟩ = some (.slice (some ⟨g, 0, none⟩) n cap) := C'.cell 4
  have d5 : W.cell? ⟨cb, 5, none⟩ = some (.pointer none) := C'.cell 5
  have d6 : W.cell? ⟨cb, 6, none⟩ = some (.int .i64 ((e + 1 : Nat) : Int)) := C'.cell 6
  have d7 : W.cell? ⟨cb, 7, none⟩ = some (.int .u64 (y + 1)) := C'.cell 7
  have r0 : W.cell? ⟨w.heap.size + 1, 0, none⟩ = some (.slice none 0 0) := cell_of_row W _ 0 _ _ _ hR
  have r1 : W.cell? ⟨w.heap.size + 1, 1, none⟩ = some (.pointer none) := cell_of_row W _ 1 _ _ _ hR
  have r2 : W.cell? ⟨w.heap.size + 1, 2, none⟩ = some (.int .i64 0) := cell_of_row W _ 2 _ _ _ hR
  have r3 : W.cell? ⟨w.heap.size + 1, 3, none⟩ = some (.int .u64 0) := cell_of_row W _ 3 _ _ _ hR
  have g0 := frozen_of_row W (w.heap.size + 1) 0 _ _ hR
  have g1 := frozen_of_row W (w.heap.size + 1) 1 _ _ hR
  have g2 := frozen_of_row W (w.heap.size + 1) 2 _ _ hR
  have g3 := frozen_of_row W (w.heap.size + 1) 3 _ _ hR
  clear c0 c1 c4 c5 c6 c7 f4 f5 f6 f7
  go_wp2_with fail
  refine bodyPost_ret (v := .tuple #[.agg #[.slice (some ⟨g, 0, none⟩) n cap, .pointer none, .int .i64 ((e : Int) + 1), .int .u64 (y + 1)], .nilIface]) (by simp [results, Ybaf.results22, go_sem, r0, r1, r2, r3]) rfl ⟨rfl, ?_, ?_⟩
  · exact C'.grown (gb_set (gb_set (gb_set (gb_set (gb_refl _ _) _ _) _ _) _ _) _ _) (by simp; omega)
  · exact gb_set_new (gb_set_new (gb_set_new (gb_set_new hg (by simp) _ _) (by simp) _ _) (by simp) _ _) (by simp) _ _

/-- The sentinel ErrOverflow in its variable, and its text. -/
structure Sent (w : World) (a : Addr) (s : ByteArray) : Prop where
  g0 : w.cell? ⟨0, 0, none⟩ = some (.iface 93 (.pointer (some a)))
  txt : w.cell? a = some (.string s)

theorem Sent.below {w w' : World} {a : Addr} {s : ByteArray} (S : Sent w a s) (hb : Below w.heap.size w w') : Sent w' a s :=
  ⟨(hb.cell (p := ⟨0, 0, none⟩) (World.block_lt_of_cell? _ _ S.g0)).trans S.g0, (hb.cell (World.block_lt_of_cell? _ _ S.txt)).trans S.txt⟩
theorem Sent.grown {w w' : World} {a : Addr} {s : ByteArray} {cb : Nat} (S : Sent w a s) (hg : w.grownBy w' (some cb)) (h0 : cb ≠ 0) (h1 : cb ≠ a.block) : Sent w' a s :=
  ⟨hg.cell S.g0 (by simp; omega), hg.cell S.txt (by simp; omega)⟩

open Go.Stop in
set_option maxRecDepth 20000 in
set_option maxHeartbeats 2000000 in
theorem step_over (F : Interp) (cb g n cap at_ e : Nat) (nm : ByteArray) (p : Int) (hs : List Int) (v0 : Value) (a0 : Nat) (p0 : Int) (w : World) (sa : Addr) (st : ByteArray) (C : Clk w cb nm e 1 v0 a0 p0) (hF : F.answers w.tape) (S : Sent w sa st) (hn : n ≤ 2000) (he : e < n) (ha : at_ = 0 ∨ at_ = e + 1)
    (hown : w.ownsRow 0 31 1 (.slice (some ⟨g, 0, none⟩) n cap) n (hs.map (.int .u64))) (hy : (rd hs at_ p).getD e 0 = 18446744073709551615) :
    Calls Ybaf.prog 22 #[.pointer (some ⟨cb, 0, none⟩), .agg #[.slice (some ⟨g, 0, none⟩) n cap, .pointer none, .int .i64 at_, .int .u64 p]] w fun x w' =>
      ∃ pb, x = .returned (.tuple #[.agg #[.slice none 0 0, .pointer none, .int .i64 0, .int .u64 0], .iface 77 (.pointer (some ⟨pb, 0, none⟩))]) ∧ w'.cell? ⟨pb, 1, none⟩ = some (.iface 93 (.pointer (some sa))) ∧ w.heap.size ≤ pb ∧ Below w.heap.size w w' := by
  have hlt := C.lt
  have c0 : w.cell? ⟨cb, 0, none⟩ = some (.string nm) := C.cell 0
  have c1 : w.cell? ⟨cb, 1, none⟩ = some (.int .i64 e) := C.cell 1
  have hB := hideIt (CL.boxed w (.slice (some ⟨g, 0, none⟩) n cap) at_ p 33)
  have hO := hideIt (hown.alloc (.cells #[.slice (some ⟨g, 0, none⟩) n cap, .pointer none, .int .i64 at_, .int .u64 p] 33))
  have HY := hideIt hy
  have hsb := World.block_lt_of_cell? _ _ S.txt
  have h00 := World.block_lt_of_cell? _ _ S.g0
  clear hy hown
  go_enter Ybaf.func22, Ybaf.ntmps22
  go_wp2_with fail
  have hget := get_any w.heap.size 0 g n cap at_ e p hs _ (hB.out.alloc (.cells #[.slice none 0 0, .pointer none, .int .i64 0, .int .u64 0] 35)) hn he ha (hO.out.alloc _)
  refine hget.mono ?_
  rintro x w' ⟨rfl, rfl⟩
  rw [HY.out]
  clear hget hB hO HY
  go_wp2_with fail
  have hov := overflow_any F nm sa st ((w.alloc (.cells #[.slice (some ⟨g, 0, none⟩) n cap, .pointer none, .int .i64 at_, .int .u64 p] 33)).alloc (.cells #[.slice none 0 0, .pointer none, .int .i64 0, .int .u64 0] 35)) hF
    (by rw [World.cell?_alloc_lt _ _ _ (by simp), World.cell?_alloc_lt _ _ _ (by exact h00)]; exact S.g0)
    (fun o => by rw [World.cell?_alloc_lt _ _ _ (by simp; omega), World.cell?_alloc_lt _ _ _ (by simp; omega), World.cell?_alloc_lt _ _ _ hsb]; exact S.txt)
  go_fit hov
  rintro x w' ⟨txt, rfl, rfl⟩
  clear hov
  go_wp2_with fail
  refine bodyPost_ret (v := .tuple #[.agg #[.slice none 0 0, .pointer none, .int .i64 0, .int .u64 0], .iface 77 (.pointer (some ⟨w.heap.size + 1 + 1 + 1, 0, none⟩))]) (by simp [results, Ybaf.results22, go_sem]) rfl ⟨_, rfl, by simp [go_sem], by omega, ?_⟩
  exact (((((Below.refl _ _).alloc (Nat.le_refl _) _).alloc (by simp) _).alloc (by simp; omega) _).alloc (by simp; omega) _).drew
end Go.Proofs.YbulksesFmt
