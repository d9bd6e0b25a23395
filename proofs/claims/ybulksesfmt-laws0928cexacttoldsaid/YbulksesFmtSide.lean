/- The law Exact: what lies in memory between its statements. -/
import Derived.Test.YbulksesFmtArms
import Derived.Test.YbulksesFmtIs
namespace Go.Proofs.YbulksesFmt
open Go.RowKit Go.MuLone Go.Stop

structure Ex (w0 wr : World) (cb sb kb ab bb e n k : Nat) (nm : ByteArray) (M A R : List Int) : Prop where
  below : Below w0.heap.size w0 wr
  cr : CR wr cb nm e n R
  st : wr.ownsRow 0 31 1 (.slice (some ⟨sb, 0, none⟩) n n) n (M.map (.int .u64))
  kp : wr.ownsRow 0 31 1 (.slice (some ⟨kb, 0, none⟩) n n) n (M.map (.int .u64))
  ta : wr.ownsRow 0 31 1 (.slice (some ⟨ab, 0, none⟩) k k) k (A.map (.int .u64))
  ak : wr.ownsRow 0 31 1 (.slice (some ⟨bb, 0, none⟩) k k) k (A.map (.int .u64))
  n1 : sb ≠ cb
  n2 : kb ≠ cb
  n3 : ab ≠ cb
  n4 : bb ≠ cb
  at0 : w0.heap.size ≤ cb

section
variable {w0 wr w' : World} {cb sb kb ab bb e n k : Nat} {nm : ByteArray} {M A R : List Int}

theorem Ex.below' (E : Ex w0 wr cb sb kb ab bb e n k nm M A R) (hb : Below wr.heap.size wr w') : Ex w0 w' cb sb kb ab bb e n k nm M A R :=
  ⟨E.below.trans (hb.mono E.below.size), E.cr.below hb, own_keep E.st hb, own_keep E.kp hb, own_keep E.ta hb, own_keep E.ak hb, E.n1, E.n2, E.n3, E.n4, E.at0⟩

theorem Ex.grown {R' : List Int} (E : Ex w0 wr cb sb kb ab bb e n k nm M A R) (hg : wr.grownBy w' (some cb)) (C : CR w' cb nm e n R') : Ex w0 w' cb sb kb ab bb e n k nm M A R' :=
  ⟨below_gb E.below hg E.below.size E.at0, C, own_grown E.st hg E.n1, own_grown E.kp hg E.n2, own_grown E.ta hg E.n3, own_grown E.ak hg E.n4, E.n1, E.n2, E.n3, E.n4, E.at0⟩

theorem Ex.drewN (E : Ex w0 wr cb sb kb ab bb e n k nm M A R) (q : Nat) : Ex w0 (wr.drewN q) cb sb kb ab bb e n k nm M A R :=
  E.below' (below_of_drewN (w := wr) (q := q) (Below.refl _ _))
end

/-- The zero stamp in block gb. -/
structure Got0 (w : World) (gb : Nat) : Prop where
  c0 : w.cell? ⟨gb, 0, none⟩ = some (.slice none 0 0)
  c1 : w.cell? ⟨gb, 1, none⟩ = some (.pointer none)
  c2 : w.cell? ⟨gb, 2, none⟩ = some (.int .i64 0)
  c3 : w.cell? ⟨gb, 3, none⟩ = some (.int .u64 0)

theorem cell_keep {w w' : World} {a : Addr} {v : Value} (h : w.cell? a = some v) (hb : Below w.heap.size w w') : w'.cell? a = some v :=
  (hb.cell (World.block_lt_of_cell? _ _ h)).trans h

theorem Got0.keep {w w' : World} {gb : Nat} (h : Got0 w gb) (hb : Below w.heap.size w w') : Got0 w' gb :=
  ⟨cell_keep h.c0 hb, cell_keep h.c1 hb, cell_keep h.c2 hb, cell_keep h.c3 hb⟩

theorem got0_new (w : World) : Got0 (w.alloc (.cells #[.slice none 0 0, .pointer none, .int .i64 0, .int .u64 0] 35)) w.heap.size :=
  ⟨cell_of_row _ _ 0 _ _ _ (heap_alloc_new _ _), cell_of_row _ _ 1 _ _ _ (heap_alloc_new _ _), cell_of_row _ _ 2 _ _ _ (heap_alloc_new _ _), cell_of_row _ _ 3 _ _ _ (heap_alloc_new _ _)⟩

theorem GotAt.keep {w w' : World} {gb n : Nat} {R : List Int} (h : GotAt w gb n R) (hb : Below w.heap.size w w') : GotAt w' gb n R := by
  obtain ⟨g, cap, at_, p, hs, h0, h1, h2, h3, ha, ho, hr⟩ := h
  exact ⟨g, cap, at_, p, hs, cell_keep h0 hb, cell_keep h1 hb, cell_keep h2 hb, cell_keep h3 hb, ha, own_keep ho hb, hr⟩

theorem got_new (w : World) (n g cap at_ : Nat) (p : Int) (hs R : List Int) (ha : at_ ≤ n) (ho : w.ownsRow 0 31 1 (.slice (some ⟨g, 0, none⟩) n cap) n (hs.map (.int .u64))) (hr : rd hs at_ p = R) :
    GotAt (w.alloc (.cells #[.slice (some ⟨g, 0, none⟩) n cap, .pointer none, .int .i64 at_, .int .u64 p] 35)) w.heap.size n R :=
  ⟨g, cap, at_, p, hs, cell_of_row _ _ 0 _ _ _ (heap_alloc_new _ _), cell_of_row _ _ 1 _ _ _ (heap_alloc_new _ _), cell_of_row _ _ 2 _ _ _ (heap_alloc_new _ _), cell_of_row _ _ 3 _ _ _ (heap_alloc_new _ _), ha, ho.alloc _, hr⟩

theorem below_new (w : World) (o : Obj) : Below w.heap.size w (w.alloc o) := (Below.refl _ _).alloc (Nat.le_refl _) _

theorem eq_below (ao bo : Option Addr) (n : Nat) (xs : List Int) (w : World) (hn : n ≤ 2000) (hx : RowAt w ao n xs) (hy : RowAt w bo n xs) :
    Calls Ybaf.prog 9 #[.slice ao n n, .slice bo n n] w fun e w' => e = .returned (.bool true) ∧ Below w.heap.size w w' := by
  refine (eq_same ao bo n xs w hn hx hy).mono ?_
  rintro x w' ⟨rfl, q, rfl⟩
  exact ⟨rfl, below_of_drewN (w := w) (q := q) (Below.refl _ _)⟩

theorem start_ex {w w2 w3 w4 w5 : World} (n e k : Nat) (nm : ByteArray) (M0 A : List Int) (o o' o2 : Obj) (hM : w2.ownsRow 0 31 1 (.slice (some ⟨w.heap.size, 0, none⟩) n n) n (M0.map (.int .u64))) (hb2 : Below w.heap.size w w2)
    (hO3 : w3.ownsRow 0 31 1 (.slice (some ⟨w2.heap.size, 0, none⟩) n n) n (M0.map (.int .u64))) (hb3 : Below w2.heap.size w2 w3)
    (hO4 : w4.ownsRow 0 31 1 (.slice (some ⟨w3.heap.size, 0, none⟩) k k) k (A.map (.int .u64))) (hb4 : Below w3.heap.size w3 w4)
    (hO5 : w5.ownsRow 0 31 1 (.slice (some ⟨w4.heap.size, 0, none⟩) k k) k (A.map (.int .u64))) (hb5 : Below w4.heap.size w4 w5) :
    Ex w ((((w5.alloc o).alloc o').alloc o2).alloc (.cells #[.string nm, .int .i64 e, .int .i32 0, .int .u32 0, .slice (some ⟨w.heap.size, 0, none⟩) n n, .pointer none, .int .i64 0, .int .u64 0] 62)).drew (w5.heap.size + 2 + 1) w.heap.size w2.heap.size w3.heap.size w4.heap.size e n k nm M0 A M0 := by
  have h1 := own_lt hM
  have h3 := own_lt hO3
  have h4 := own_lt hO4
  have h5 := own_lt hO5
  have k2 := hb2.size
  have k3 := hb3.size
  have k4 := hb4.size
  have k5 := hb5.size
  have hM5 := own_keep (own_keep (own_keep hM hb3) hb4) hb5
  have hK5 := own_keep (own_keep hO3 hb4) hb5
  have hA5 := own_keep hO4 hb5
  refine ⟨?_, ⟨w.heap.size, n, 0, 0, M0, ?_, by omega, .inl rfl, ?_, by rw [rd, if_pos rfl]⟩, ?_, ?_, ?_, ?_, by omega, by omega, by omega, by omega, by omega⟩
  · exact (((((((hb2.trans (hb3.mono k2)).trans (hb4.mono (by omega))).trans (hb5.mono (by omega))).alloc (by omega) _).alloc (by simp; omega) _).alloc (by simp; omega) _).alloc (by simp; omega) _).drew
  · have := heap_alloc_new (((w5.alloc o).alloc o').alloc o2) (.cells #[.string nm, .int .i64 e, .int .i32 0, .int .u32 0, .slice (some ⟨w.heap.size, 0, none⟩) n n, .pointer none, .int .i64 0, .int .u64 0] 62)
    simp only [World.size_alloc] at this
    exact this
  · exact own_drewN ((((hM5.alloc _).alloc _).alloc _).alloc _) 1
  · exact own_drewN ((((hM5.alloc _).alloc _).alloc _).alloc _) 1
  · exact own_drewN ((((hK5.alloc _).alloc _).alloc _).alloc _) 1
  · exact own_drewN ((((hA5.alloc _).alloc _).alloc _).alloc _) 1
  · exact own_drewN ((((hO5.alloc _).alloc _).alloc _).alloc _) 1
end Go.Proofs.YbulksesFmt
