/- The clock's contracts over the list that it reads as. -/
import Derived.Test.YbulksesFmtRecvOver
import Derived.Test.YbulksesFmtRecvLong
namespace Go.Proofs.YbulksesFmt
open Go.RowKit Go.MuLone Go.Stop

/-- The clock reads as the list R. -/
def CR (w : World) (cb : Nat) (nm : ByteArray) (e n : Nat) (R : List Int) : Prop :=
  ∃ g cap at_ p hs, Clk w cb nm e 0 (.slice (some ⟨g, 0, none⟩) n cap) at_ p ∧ g ≠ cb ∧ (at_ = 0 ∨ at_ = e + 1) ∧ w.ownsRow 0 31 1 (.slice (some ⟨g, 0, none⟩) n cap) n (hs.map (.int .u64)) ∧ rd hs at_ p = R

/-- The stamp reads as the list R. -/
def SR (w : World) (v : Value) (n : Nat) (R : List Int) : Prop :=
  ∃ (g cap at_ : Nat) (p : Int) (hs : List Int), v = .agg #[.slice (some ⟨g, 0, none⟩) n cap, .pointer none, .int .i64 at_, .int .u64 p] ∧ at_ ≤ n ∧ w.ownsRow 0 31 1 (.slice (some ⟨g, 0, none⟩) n cap) n (hs.map (.int .u64)) ∧ rd hs at_ p = R

theorem rd_bump (hs A : List Int) (at_ e k : Nat) (p : Int) (ha : at_ = 0 ∨ at_ = e + 1) (hA : A.length = k) (hk : k = 0) : rd hs (e + 1) ((rd hs at_ p).getD e 0 + 1) = bump (rd hs at_ p) A e := by
  subst hk
  rw [bump, hA, mxU, rd, if_neg (by omega), Nat.add_sub_cancel]
  rcases ha with rfl | rfl
  · simp [rd]
  · simp [rd, List.set_set]

theorem CR.lt {w : World} {cb : Nat} {nm : ByteArray} {e n : Nat} {R : List Int} (h : CR w cb nm e n R) : cb < w.heap.size := by
  obtain ⟨g, cap, at_, p, hs, C, _⟩ := h
  exact C.lt

theorem CR.len {w : World} {cb : Nat} {nm : ByteArray} {e n : Nat} {R : List Int} (h : CR w cb nm e n R) : R.length = n := by
  obtain ⟨g, cap, at_, p, hs, C, _, _, ho, rfl⟩ := h
  rw [rd_len]
  have := ho.1
  simpa using this

theorem own_grown {w w' : World} {g n cap cb : Nat} {vs : List Value} (ho : w.ownsRow 0 31 1 (.slice (some ⟨g, 0, none⟩) n cap) n vs) (hg : w.grownBy w' (some cb)) (hne : g ≠ cb) : w'.ownsRow 0 31 1 (.slice (some ⟨g, 0, none⟩) n cap) n vs :=
  ho.kept hg (.inr (by simp [Value.ownBlock]; exact hne))

theorem CR.grown {w w' : World} {cb : Nat} {nm : ByteArray} {e n : Nat} {R : List Int} (h : CR w cb nm e n R) (hg : w.grownBy w' none) : CR w' cb nm e n R := by
  obtain ⟨g, cap, at_, p, hs, C, h1, h2, ho, h3⟩ := h
  exact ⟨g, cap, at_, p, hs, C.grown hg (by simp), h1, h2, ho.kept hg (.inr (by simp [Value.ownBlock])), h3⟩

theorem local_cr (F : Interp) (cb n e : Nat) (nm : ByteArray) (R : List Int) (w : World) (sa : Addr) (st : ByteArray) (C : CR w cb nm e n R) (u : U64 R) (hF : F.answers w.tape) (S : Sent w sa st) (hc0 : cb ≠ 0) (hcs : cb ≠ sa.block) (hnm : nm.toList.isEmpty = false) (hn : n ≤ 2000) (he : e < n) :
    Calls Ybaf.prog 14 #[.pointer (some ⟨cb, 0, none⟩)] w fun x w' => w.grownBy w' (some cb) ∧
      ((R.getD e 0 = 18446744073709551615 ∧ (∃ pb, x = .returned (.tuple #[.agg #[.slice none 0 0, .pointer none, .int .i64 0, .int .u64 0], .iface 77 (.pointer (some ⟨pb, 0, none⟩))]) ∧ w'.cell? ⟨pb, 1, none⟩ = some (.iface 93 (.pointer (some sa))) ∧ w.heap.size ≤ pb) ∧ CR w' cb nm e n R) ∨
       (R.getD e 0 ≠ 18446744073709551615 ∧ ∃ v, x = .returned (.tuple #[v, .nilIface]) ∧ SR w' v n (bump R [] e) ∧ CR w' cb nm e n (bump R [] e))) := by
  obtain ⟨g, cap, at_, p, hs, Ck, hgc, ha, hown, rfl⟩ := C
  by_cases hy : (rd hs at_ p).getD e 0 = 18446744073709551615
  · refine (local_over F cb g n cap at_ e nm p hs w sa st Ck hF S hc0 hcs hgc hnm hn he ha hown hy).mono ?_
    rintro x w' ⟨pb, rfl, hpb, hpl, C', hg⟩
    exact ⟨hg, .inl ⟨hy, ⟨pb, rfl, hpb, hpl⟩, g, cap, at_, p, hs, C', hgc, ha, own_grown hown hg hgc, rfl⟩⟩
  · have hu := u e
    refine (local_ok cb g n cap at_ e nm p hs w Ck hgc hnm hn he ha hown _ rfl hu.1 (by omega)).mono ?_
    rintro x w' ⟨rfl, C', hg⟩
    have hb := rd_bump hs [] at_ e 0 p ha rfl rfl
    exact ⟨hg, .inr ⟨hy, _, rfl, ⟨g, cap, e + 1, _, hs, rfl, by omega, own_grown hown hg hgc, hb⟩, g, cap, e + 1, _, hs, C', hgc, .inr rfl, own_grown hown hg hgc, hb⟩⟩

theorem receive_cr (F : Interp) (cb n e k uc : Nat) (uo : Option Addr) (nm : ByteArray) (R A : List Int) (w : World) (sa : Addr) (st : ByteArray) (C : CR w cb nm e n R) (u : U64 R) (hA : RowAt w uo k A) (hAc : ∀ b off, uo = some ⟨b, off, none⟩ → b ≠ cb) (uA : U64 A) (hF : F.answers w.tape) (S : Sent w sa st) (hc0 : cb ≠ 0) (hcs : cb ≠ sa.block) (hnm : nm.toList.isEmpty = false) (hn : n ≤ 2000) (he : e < n) (hk : k ≤ n) :
    Calls Ybaf.prog 8 #[.pointer (some ⟨cb, 0, none⟩), .agg #[.slice uo k uc, .pointer none, .int .i64 0, .int .u64 0]] w fun x w' => w.grownBy w' (some cb) ∧
      (((mxU R A k).getD e 0 = 18446744073709551615 ∧ (∃ pb, x = .returned (.tuple #[.agg #[.slice none 0 0, .pointer none, .int .i64 0, .int .u64 0], .iface 77 (.pointer (some ⟨pb, 0, none⟩))]) ∧ w'.cell? ⟨pb, 1, none⟩ = some (.iface 93 (.pointer (some sa))) ∧ w.heap.size ≤ pb) ∧ CR w' cb nm e n R) ∨
       ((mxU R A k).getD e 0 ≠ 18446744073709551615 ∧ ∃ v, x = .returned (.tuple #[v, .nilIface]) ∧ SR w' v n (bump R A e) ∧ CR w' cb nm e n (bump R A e))) := by
  have hl := C.len
  have hlt := C.lt
  obtain ⟨g, cap, at_, p, hs, Ck, hgc, ha, hown, rfl⟩ := C
  by_cases hy : (mxU (rd hs at_ p) A k).getD e 0 = 18446744073709551615
  · refine (receive_over F cb g n cap at_ e k uc uo nm p hs A w sa st Ck hF S hc0 hcs hgc hnm hn he ha hk hown hA hAc hy).mono ?_
    rintro x w' ⟨pb, rfl, hpb, hpl, C', hg⟩
    exact ⟨hg, .inl ⟨hy, ⟨pb, rfl, hpb, hpl⟩, g, cap, at_, p, hs, C', hgc, ha, own_grown hown hg hgc, rfl⟩⟩
  · have hu := mxU_u64 u uA k (by omega) e
    refine (receive_ok cb g n cap at_ e k uc uo nm p hs A w Ck hgc hnm hn he ha hk hown hA hAc _ rfl hu.1 (by omega)).mono ?_
    rintro x w' ⟨mb, hmb, rfl, C', ho', hg⟩
    have hb : rd (mxU (rd hs at_ p) A k) (e + 1) ((mxU (rd hs at_ p) A k).getD e 0 + 1) = bump (rd hs at_ p) A e := by
      rw [bump, hA.1, rd, if_neg (by omega), Nat.add_sub_cancel]
    exact ⟨hg, .inr ⟨hy, _, rfl, ⟨mb, n, e + 1, _, _, rfl, by omega, ho', hb⟩, mb, n, e + 1, _, _, C', by omega, .inr rfl, ho', hb⟩⟩

theorem long_cr (F : Interp) (cb n e k uc : Nat) (uo : Option Addr) (nm : ByteArray) (R : List Int) (w : World) (C : CR w cb nm e n R) (hF : F.answers w.tape) (hnm : nm.toList.isEmpty = false) (hn : n ≤ 2000) (hk : n < k) (hku : k ≤ 2000) :
    Calls Ybaf.prog 8 #[.pointer (some ⟨cb, 0, none⟩), .agg #[.slice uo k uc, .pointer none, .int .i64 0, .int .u64 0]] w fun x w' => w.grownBy w' (some cb) ∧
      (∃ pb, x = .returned (.tuple #[.agg #[.slice none 0 0, .pointer none, .int .i64 0, .int .u64 0], .iface 93 (.pointer (some ⟨pb, 0, none⟩))]) ∧ w.heap.size ≤ pb) ∧ CR w' cb nm e n R := by
  obtain ⟨g, cap, at_, p, hs, Ck, hgc, ha, hown, rfl⟩ := C
  refine (receive_long F cb g n cap at_ e k uc uo nm p w Ck hF hnm hn hk hku).mono ?_
  rintro x w' ⟨pb, rfl, hpl, C', hg⟩
  exact ⟨hg, ⟨pb, rfl, hpl⟩, g, cap, at_, p, hs, C', hgc, ha, own_grown hown hg hgc, rfl⟩

theorem now_cr (cb n e : Nat) (nm : ByteArray) (R : List Int) (w : World) (C : CR w cb nm e n R) (he : e < n) :
    Calls Ybaf.prog 13 #[.pointer (some ⟨cb, 0, none⟩)] w fun x w' => w.grownBy w' (some cb) ∧ ∃ v, x = .returned v ∧ SR w' v n R ∧ CR w' cb nm e n R := by
  obtain ⟨g, cap, at_, p, hs, Ck, hgc, ha, hown, rfl⟩ := C
  refine (now_any cb at_ e n cap _ nm p w Ck).mono ?_
  rintro x w' ⟨rfl, C', hg⟩
  exact ⟨hg, _, rfl, ⟨g, cap, at_, p, hs, rfl, by omega, own_grown hown hg hgc, rfl⟩, g, cap, at_, p, hs, C', hgc, ha, own_grown hown hg hgc, rfl⟩

theorem read_sr (v : Value) (n : Nat) (R : List Int) (w : World) (h : SR w v n R) (h1 : 0 < n) (hn : n ≤ 2000) :
    Calls Ybaf.prog 11 #[v] w fun x w' => x = .returned (.slice (some ⟨w.heap.size + 1, 0, none⟩) n n) ∧ w'.ownsRow (w.heap.size + 1) 31 1 (.slice (some ⟨w.heap.size + 1, 0, none⟩) n n) n (R.map (.int .u64)) ∧ Below w.heap.size w w' := by
  obtain ⟨g, cap, at_, p, hs, rfl, ha, hown, rfl⟩ := h
  exact read_pos g n cap at_ p hs w h1 hn ha hown
end Go.Proofs.YbulksesFmt
