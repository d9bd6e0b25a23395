/- The script's round: what lies in memory between its statements. -/
import Derived.Test.YbulksesFmtPlain
namespace Go.Proofs.YbulksesFmt
open Go.RowKit Go.MuLone Go.Stop

theorem own_block {w : World} {g n cap : Nat} {vs : List Value} (ho : w.ownsRow 0 31 1 (.slice (some ⟨g, 0, none⟩) n cap) n vs) : ∃ arr z, w.heap[g]? = some (.cells arr 31 z) := by
  rcases ho.2 with h | ⟨b, c, arr, h, _, hb, _⟩
  · exact absurd h.1 (by simp)
  · cases h
    exact ⟨_, _, hb⟩

theorem own_ne35 {w : World} {g n cap gb : Nat} {vs : List Value} {x : Array Value} {z : Nat × Nat} (ho : w.ownsRow 0 31 1 (.slice (some ⟨g, 0, none⟩) n cap) n vs) (h : w.heap[gb]? = some (.cells x 35 z)) : g ≠ gb := by
  obtain ⟨arr, z', hb⟩ := own_block ho
  rintro rfl
  rw [h] at hb
  cases hb

theorem own_lt {w : World} {g n cap : Nat} {vs : List Value} (ho : w.ownsRow 0 31 1 (.slice (some ⟨g, 0, none⟩) n cap) n vs) : g < w.heap.size := by
  obtain ⟨arr, z', hb⟩ := own_block ho
  apply Nat.lt_of_not_le
  intro hge
  rw [Array.getElem?_eq_none hge] at hb
  cases hb

theorem CR.kept35 {w w' : World} {cb gb : Nat} {nm : ByteArray} {e n : Nat} {R : List Int} {x : Array Value} {z : Nat × Nat} (h : CR w cb nm e n R) (hg : w.grownBy w' (some gb)) (h35 : w.heap[gb]? = some (.cells x 35 z)) (hne : gb ≠ cb) : CR w' cb nm e n R := by
  obtain ⟨g, cap, at_, p, hs, C, h1, h2, ho, h3⟩ := h
  exact ⟨g, cap, at_, p, hs, C.grown hg (by simp; omega), h1, h2, own_grown ho hg (own_ne35 ho h35), h3⟩

theorem CR.below {w w' : World} {cb : Nat} {nm : ByteArray} {e n : Nat} {R : List Int} (h : CR w cb nm e n R) (hb : Below w.heap.size w w') : CR w' cb nm e n R :=
  h.grown ⟨hb.os, hb.tape, hb.output, hb.size, fun k hk _ => hb.block k hk⟩

theorem gb_below {w w' : World} (row : Option Nat) (hb : Below w.heap.size w w') : w.grownBy w' row := ⟨hb.os, hb.tape, hb.output, hb.size, fun k hk _ => hb.block k hk⟩

theorem below_gb {B cb : Nat} {a b c : World} (h : Below B a b) (hg : b.grownBy c (some cb)) (hB : B ≤ b.heap.size) (hc : B ≤ cb) : Below B a c :=
  ⟨hg.os.trans h.os, hg.tape.trans h.tape, hg.output.trans h.output, Nat.le_trans h.size hg.size, fun k hk => (hg.block k (by omega) (by simp; omega)).trans (h.block k hk)⟩

/-- What stands at the head of each round. -/
structure Main (w0 wr : World) (cb mb e n : Nat) (nm : ByteArray) (M : List Int) : Prop where
  below : Below w0.heap.size w0 wr
  cr : CR wr cb nm e n M
  own : wr.ownsRow 0 31 1 (.slice (some ⟨mb, 0, none⟩) n n) n (M.map (.int .u64))
  ne : mb ≠ cb
  at0 : w0.heap.size ≤ cb
  u : U64 M

/-- The stamp got lies in block gb, and reads as R. -/
def GotAt (wx : World) (gb n : Nat) (R : List Int) : Prop :=
  ∃ (g cap at_ : Nat) (p : Int) (hs : List Int), wx.cell? ⟨gb, 0, none⟩ = some (.slice (some ⟨g, 0, none⟩) n cap) ∧ wx.cell? ⟨gb, 1, none⟩ = some (.pointer none) ∧ wx.cell? ⟨gb, 2, none⟩ = some (.int .i64 at_) ∧ wx.cell? ⟨gb, 3, none⟩ = some (.int .u64 p) ∧
    at_ ≤ n ∧ wx.ownsRow 0 31 1 (.slice (some ⟨g, 0, none⟩) n cap) n (hs.map (.int .u64)) ∧ rd hs at_ p = R

/-- Behind the round's if. -/
def Done (w0 wx : World) (cb mb e n gb : Nat) (nm : ByteArray) (M : List Int) (s12 s16 s17 : Value) : Prop :=
  (∃ ty pb, s12 = .iface ty (.pointer (some ⟨pb, 0, none⟩)) ∧ s17 = .bool true ∧ s16 = .slice (some ⟨mb, 0, none⟩) n n ∧ Main w0 wx cb mb e n nm M) ∨
  (s12 = .nilIface ∧ s17 = .bool false ∧ ∃ nb M', s16 = .slice (some ⟨nb, 0, none⟩) n n ∧ Main w0 wx cb nb e n nm M' ∧ GotAt wx gb n M')

/-- The world behind the call and the store of the stamp got. -/
structure Held (w0 w4 : World) (cb mb e n gb : Nat) (nm : ByteArray) (M R : List Int) : Prop where
  below : Below w0.heap.size w0 w4
  cr : CR w4 cb nm e n R
  own : w4.ownsRow 0 31 1 (.slice (some ⟨mb, 0, none⟩) n n) n (M.map (.int .u64))

theorem held_of {w0 wr w' : World} {cb mb e n : Nat} {nm : ByteArray} {M R : List Int} (H : Main w0 wr cb mb e n nm M) (z a b c d : Value) (za zb zc : Value)
    (hg : (wr.alloc (.cells #[z, za, zb, zc] 35)).grownBy w' (some cb)) (C : CR w' cb nm e n R) :
    Held w0 ((((w'.setCell ⟨wr.heap.size, 0, none⟩ a).setCell ⟨wr.heap.size, 1, none⟩ b).setCell ⟨wr.heap.size, 2, none⟩ c).setCell ⟨wr.heap.size, 3, none⟩ d) cb mb e n wr.heap.size nm M R := by
  have hlt := H.cr.lt
  have hsz := H.below.size
  have h35 : w'.heap[wr.heap.size]? = some (.cells #[z, za, zb, zc] 35 (0, 0)) := by
    rw [hg.block wr.heap.size (by simp) (by simp; omega), heap_alloc_new]
  have hs := hg.size
  have hs' : wr.heap.size + 1 ≤ w'.heap.size := by simpa using hs
  have hg4 : w'.grownBy ((((w'.setCell ⟨wr.heap.size, 0, none⟩ a).setCell ⟨wr.heap.size, 1, none⟩ b).setCell ⟨wr.heap.size, 2, none⟩ c).setCell ⟨wr.heap.size, 3, none⟩ d) (some wr.heap.size) := gb_set (gb_set (gb_set (gb_set (gb_refl _ _) 0 a) 1 b) 2 c) 3 d
  have ho' : w'.ownsRow 0 31 1 (.slice (some ⟨mb, 0, none⟩) n n) n (M.map (.int .u64)) := own_grown (H.own.alloc _) hg H.ne
  have hal : wr.grownBy (wr.alloc (.cells #[z, za, zb, zc] 35)) (some cb) := gb_alloc (gb_refl _ _) _
  refine ⟨?_, C.kept35 hg4 h35 (by omega), own_grown ho' hg4 (own_ne35 ho' h35)⟩
  exact below_gb (below_gb (below_gb H.below hal hsz H.at0) hg (by simp; omega) H.at0) hg4 (by omega) (by omega)

theorem got_of {w0 wr w' wx : World} {cb mb e n : Nat} {nm : ByteArray} {M R : List Int} (H : Main w0 wr cb mb e n nm M) (z za zb zc : Value) (g cap at_ : Nat) (p : Int) (hs : List Int)
    (hg : (wr.alloc (.cells #[z, za, zb, zc] 35)).grownBy w' (some cb)) (ha : at_ ≤ n) (ho : w'.ownsRow 0 31 1 (.slice (some ⟨g, 0, none⟩) n cap) n (hs.map (.int .u64))) (hr : rd hs at_ p = R)
    (hb : Below ((((w'.setCell ⟨wr.heap.size, 0, none⟩ (.slice (some ⟨g, 0, none⟩) n cap)).setCell ⟨wr.heap.size, 1, none⟩ (.pointer none)).setCell ⟨wr.heap.size, 2, none⟩ (.int .i64 at_)).setCell ⟨wr.heap.size, 3, none⟩ (.int .u64 p)).heap.size ((((w'.setCell ⟨wr.heap.size, 0, none⟩ (.slice (some ⟨g, 0, none⟩) n cap)).setCell ⟨wr.heap.size, 1, none⟩ (.pointer none)).setCell ⟨wr.heap.size, 2, none⟩ (.int .i64 at_)).setCell ⟨wr.heap.size, 3, none⟩ (.int .u64 p)) wx) : GotAt wx wr.heap.size n R := by
  have hlt := H.cr.lt
  have h35 : w'.heap[wr.heap.size]? = some (.cells #[z, za, zb, zc] 35 (0, 0)) := by
    rw [hg.block wr.heap.size (by simp) (by simp; omega), heap_alloc_new]
  have hs' : wr.heap.size + 1 ≤ w'.heap.size := by have := hg.size; simpa using this
  have hg4 : w'.grownBy ((((w'.setCell ⟨wr.heap.size, 0, none⟩ (.slice (some ⟨g, 0, none⟩) n cap)).setCell ⟨wr.heap.size, 1, none⟩ (.pointer none)).setCell ⟨wr.heap.size, 2, none⟩ (.int .i64 at_)).setCell ⟨wr.heap.size, 3, none⟩ (.int .u64 p)) (some wr.heap.size) := gb_set (gb_set (gb_set (gb_set (gb_refl _ _) 0 _) 1 _) 2 _) 3 _
  have h1 := heap_setCell_same w' wr.heap.size 0 _ _ (.slice (some ⟨g, 0, none⟩) n cap) h35
  have h2 := heap_setCell_same _ wr.heap.size 1 _ _ (.pointer none) h1
  have h3 := heap_setCell_same _ wr.heap.size 2 _ _ (.int .i64 at_) h2
  have h4 := heap_setCell_same _ wr.heap.size 3 _ _ (.int .u64 p) h3
  have h5 := (hb.block wr.heap.size (by simp; omega)).trans h4
  exact ⟨g, cap, at_, p, hs, cell_of_row _ _ 0 _ _ _ h5, cell_of_row _ _ 1 _ _ _ h5, cell_of_row _ _ 2 _ _ _ h5, cell_of_row _ _ 3 _ _ _ h5, ha, own_grown (own_grown ho hg4 (own_ne35 ho h35)) (gb_below (some wx.heap.size) hb) (by
    have := own_lt ho
    have h6 := hb.size
    simp at h6
    omega), hr⟩

theorem Held.model {w0 w4 wx : World} {cb mb e n gb : Nat} {nm : ByteArray} {M R : List Int} (H : Held w0 w4 cb mb e n gb nm M R) (hb : Below w4.heap.size w4 wx) : Held w0 wx cb mb e n gb nm M R :=
  ⟨H.below.trans (hb.mono H.below.size), H.cr.below hb, own_grown H.own (gb_below (some wx.heap.size) hb) (by have := own_lt H.own; have := hb.size; omega)⟩
end Go.Proofs.YbulksesFmt
