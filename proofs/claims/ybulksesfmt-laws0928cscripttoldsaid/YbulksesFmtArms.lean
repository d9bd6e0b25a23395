/- The contracts by their arms. -/
import Derived.Test.YbulksesFmtRound
namespace Go.Proofs.YbulksesFmt
open Go.RowKit Go.MuLone Go.Stop

theorem local_bad (F : Interp) (cb n e : Nat) (nm : ByteArray) (R : List Int) (w : World) (sa : Addr) (st : ByteArray) (C : CR w cb nm e n R) (u : U64 R) (hF : F.answers w.tape) (S : Sent w sa st) (hc0 : cb ≠ 0) (hcs : cb ≠ sa.block) (hnm : nm.toList.isEmpty = false) (hn : n ≤ 2000) (he : e < n) (hy : R.getD e 0 = 18446744073709551615) :
    Calls Ybaf.prog 14 #[.pointer (some ⟨cb, 0, none⟩)] w fun x w' => ∃ pb, x = .returned (.tuple #[.agg #[.slice none 0 0, .pointer none, .int .i64 0, .int .u64 0], .iface 77 (.pointer (some ⟨pb, 0, none⟩))]) ∧ w'.cell? ⟨pb, 1, none⟩ = some (.iface 93 (.pointer (some sa))) ∧ w.heap.size ≤ pb ∧ w.grownBy w' (some cb) ∧ CR w' cb nm e n R := by
  refine (local_cr F cb n e nm R w sa st C u hF S hc0 hcs hnm hn he).mono ?_
  rintro x w' ⟨hg, ⟨_, ⟨pb, h1, h2, h3⟩, h4⟩ | ⟨h, _⟩⟩
  · exact ⟨pb, h1, h2, h3, hg, h4⟩
  · exact absurd hy h

theorem local_good (F : Interp) (cb n e : Nat) (nm : ByteArray) (R : List Int) (w : World) (sa : Addr) (st : ByteArray) (C : CR w cb nm e n R) (u : U64 R) (hF : F.answers w.tape) (S : Sent w sa st) (hc0 : cb ≠ 0) (hcs : cb ≠ sa.block) (hnm : nm.toList.isEmpty = false) (hn : n ≤ 2000) (he : e < n) (hy : R.getD e 0 ≠ 18446744073709551615) :
    Calls Ybaf.prog 14 #[.pointer (some ⟨cb, 0, none⟩)] w fun x w' => ∃ (g cap at_ : Nat) (p : Int) (hs : List Int), x = .returned (.tuple #[.agg #[.slice (some ⟨g, 0, none⟩) n cap, .pointer none, .int .i64 at_, .int .u64 p], .nilIface]) ∧ at_ ≤ n ∧ w'.ownsRow 0 31 1 (.slice (some ⟨g, 0, none⟩) n cap) n (hs.map (.int .u64)) ∧ rd hs at_ p = bump R [] e ∧ w.grownBy w' (some cb) ∧ CR w' cb nm e n (bump R [] e) := by
  refine (local_cr F cb n e nm R w sa st C u hF S hc0 hcs hnm hn he).mono ?_
  rintro x w' ⟨hg, ⟨h, _⟩ | ⟨_, v, rfl, ⟨g, cap, at_, p, hs, rfl, h1, h2, h3⟩, h4⟩⟩
  · exact absurd h hy
  · exact ⟨g, cap, at_, p, hs, rfl, h1, h2, h3, hg, h4⟩

theorem receive_bad (F : Interp) (cb n e : Nat) (nm : ByteArray) (R : List Int) (w : World) (sa : Addr) (st : ByteArray) (C : CR w cb nm e n R) (u : U64 R) (hF : F.answers w.tape) (S : Sent w sa st) (hc0 : cb ≠ 0) (hcs : cb ≠ sa.block) (hnm : nm.toList.isEmpty = false) (hn : n ≤ 2000) (he : e < n) (k uc : Nat) (uo : Option Addr) (A : List Int) (hA : RowAt w uo k A) (hAc : ∀ b off, uo = some ⟨b, off, none⟩ → b ≠ cb) (uA : U64 A) (hk : k ≤ n) (hy : (mxU R A k).getD e 0 = 18446744073709551615) :
    Calls Ybaf.prog 8 #[.pointer (some ⟨cb, 0, none⟩), .agg #[.slice uo k uc, .pointer none, .int .i64 0, .int .u64 0]] w fun x w' => ∃ pb, x = .returned (.tuple #[.agg #[.slice none 0 0, .pointer none, .int .i64 0, .int .u64 0], .iface 77 (.pointer (some ⟨pb, 0, none⟩))]) ∧ w'.cell? ⟨pb, 1, none⟩ = some (.iface 93 (.pointer (some sa))) ∧ w.heap.size ≤ pb ∧ w.grownBy w' (some cb) ∧ CR w' cb nm e n R := by
  refine (receive_cr F cb n e k uc uo nm R A w sa st C u hA hAc uA hF S hc0 hcs hnm hn he hk).mono ?_
  rintro x w' ⟨hg, ⟨_, ⟨pb, h1, h2, h3⟩, h4⟩ | ⟨h, _⟩⟩
  · exact ⟨pb, h1, h2, h3, hg, h4⟩
  · exact absurd hy h

theorem receive_good (F : Interp) (cb n e : Nat) (nm : ByteArray) (R : List Int) (w : World) (sa : Addr) (st : ByteArray) (C : CR w cb nm e n R) (u : U64 R) (hF : F.answers w.tape) (S : Sent w sa st) (hc0 : cb ≠ 0) (hcs : cb ≠ sa.block) (hnm : nm.toList.isEmpty = false) (hn : n ≤ 2000) (he : e < n) (k uc : Nat) (uo : Option Addr) (A : List Int) (hA : RowAt w uo k A) (hAc : ∀ b off, uo = some ⟨b, off, none⟩ → b ≠ cb) (uA : U64 A) (hk : k ≤ n) (hy : (mxU R A k).getD e 0 ≠ 18446744073709551615) :
    Calls Ybaf.prog 8 #[.pointer (some ⟨cb, 0, none⟩), .agg #[.slice uo k uc, .pointer none, .int .i64 0, .int .u64 0]] w fun x w' => ∃ (g cap at_ : Nat) (p : Int) (hs : List Int), x = .returned (.tuple #[.agg #[.slice (some ⟨g, 0, none⟩) n cap, .pointer none, .int .i64 at_, .int .u64 p], .nilIface]) ∧ at_ ≤ n ∧ w'.ownsRow 0 31 1 (.slice (some ⟨g, 0, none⟩) n cap) n (hs.map (.int .u64)) ∧ rd hs at_ p = bump R A e ∧ w.grownBy w' (some cb) ∧ CR w' cb nm e n (bump R A e) := by
  refine (receive_cr F cb n e k uc uo nm R A w sa st C u hA hAc uA hF S hc0 hcs hnm hn he hk).mono ?_
  rintro x w' ⟨hg, ⟨h, _⟩ | ⟨_, v, rfl, ⟨g, cap, at_, p, hs, rfl, h1, h2, h3⟩, h4⟩⟩
  · exact absurd h hy
  · exact ⟨g, cap, at_, p, hs, rfl, h1, h2, h3, hg, h4⟩
theorem model_bad (mo ao : Option Addr) (n k cm ca e : Nat) (M A : List Int) (w : World) (hn : n ≤ 2000) (hk : k ≤ n) (he : e < n) (hM : RowAt w mo n M) (hA : RowAt w ao k A) (uM : U64 M) (uA : U64 A) (hy : (mxU M A k).getD e 0 = 18446744073709551615) :
    Calls Ybaf.prog 10 #[.slice mo n cm, .slice ao k ca, .int .i64 e] w fun x w' => x = .returned (.tuple #[.slice mo n cm, .bool true, .bool true]) ∧ Below w.heap.size w w' := by
  refine (model_in mo ao n k cm ca e M A w hn hk he hM hA uM uA).mono ?_
  rintro x w' ⟨hb, ⟨_, h⟩ | ⟨h, _⟩⟩
  · exact ⟨h, hb⟩
  · exact absurd hy h

theorem model_good (mo ao : Option Addr) (n k cm ca e : Nat) (M A : List Int) (w : World) (hn : n ≤ 2000) (hk : k ≤ n) (he : e < n) (hM : RowAt w mo n M) (hA : RowAt w ao k A) (uM : U64 M) (uA : U64 A) (hy : (mxU M A k).getD e 0 ≠ 18446744073709551615) :
    Calls Ybaf.prog 10 #[.slice mo n cm, .slice ao k ca, .int .i64 e] w fun x w' => ∃ nb, x = .returned (.tuple #[.slice (some ⟨nb, 0, none⟩) n n, .bool false, .bool false]) ∧ w.heap.size ≤ nb ∧ w'.ownsRow 0 31 1 (.slice (some ⟨nb, 0, none⟩) n n) n ((bump M A e).map (.int .u64)) ∧ Below w.heap.size w w' := by
  refine (model_in mo ao n k cm ca e M A w hn hk he hM hA uM uA).mono ?_
  rintro x w' ⟨hb, ⟨h, _⟩ | ⟨_, h, h2⟩⟩
  · exact absurd h hy
  · exact ⟨_, h, Nat.le_refl _, own_mono h2 (Nat.zero_le _), hb⟩

theorem rowAt_nil (w : World) (ao : Option Addr) : RowAt w ao 0 [] := ⟨rfl, fun _ hj => absurd hj (Nat.not_lt_zero _)⟩
theorem u64_nil : U64 [] := fun i => by simp [List.getD_eq_getElem?_getD]

/-- The script's operations, as they lie in memory. -/
def OpsAt (w : World) (oo : Option Addr) (m : Nat) (op : Nat → Nat) (ao : Nat → Option Addr) (k c : Nat → Nat) (A : Nat → List Int) : Prop :=
  ∀ j, j < m → ∃ b off, oo = some ⟨b, off, none⟩ ∧ w.cell? ⟨b, off + j * 2, none⟩ = some (.int .u8 (op j)) ∧ w.cell? ⟨b, off + j * 2 + 1, none⟩ = some (.slice (ao j) (k j) (c j)) ∧ RowAt w (ao j) (k j) (A j) ∧ U64 (A j) ∧ op j ≤ 255

theorem info48 : (Ybaf.prog.info? 48).map (·.size) = some 2 := by kernel_rfl

theorem stamp_uni (ao : Option Addr) (k c : Nat) (A : List Int) (w : World) (hA : RowAt w ao k A) :
    Calls Ybaf.prog 7 #[.slice ao k c] w fun x w' => ∃ so sc, x = .returned (.agg #[.slice so k sc, .pointer none, .int .i64 0, .int .u64 0]) ∧ Below w.heap.size w w' ∧ RowAt w' so k A ∧ (so = ao ∨ so = none) := by
  by_cases h : k = 0
  · subst h
    refine (stampOf_zero ao c w).mono ?_
    rintro x w' ⟨rfl, o, rfl⟩
    have h0 : A = [] := List.eq_nil_of_length_eq_zero hA.1
    subst h0
    exact ⟨none, 0, rfl, (Below.refl _ _).alloc (Nat.le_refl _) _, rowAt_nil _ _, .inr rfl⟩
  · refine (stampOf_pos ao k c w (by omega)).mono ?_
    rintro x w' ⟨rfl, o, o', rfl⟩
    have hb : Below w.heap.size w ((w.alloc o).alloc o') := ((Below.refl _ _).alloc (Nat.le_refl _) _).alloc (by simp) _
    exact ⟨ao, c, rfl, hb, hA.below hb, .inl rfl⟩

theorem own_put {w : World} {g n cap gb : Nat} {vs : List Value} (ho : w.ownsRow 0 31 1 (.slice (some ⟨g, 0, none⟩) n cap) n vs) (hne : g ≠ gb) (a b c d : Value) :
    ((((w.setCell ⟨gb, 0, none⟩ a).setCell ⟨gb, 1, none⟩ b).setCell ⟨gb, 2, none⟩ c).setCell ⟨gb, 3, none⟩ d).ownsRow 0 31 1 (.slice (some ⟨g, 0, none⟩) n cap) n vs :=
  own_grown ho (gb_set (gb_set (gb_set (gb_set (gb_refl _ _) 0 a) 1 b) 2 c) 3 d) hne

theorem own_keep {w w' : World} {g n cap : Nat} {vs : List Value} (ho : w.ownsRow 0 31 1 (.slice (some ⟨g, 0, none⟩) n cap) n vs) (hb : Below w.heap.size w w') : w'.ownsRow 0 31 1 (.slice (some ⟨g, 0, none⟩) n cap) n vs :=
  own_grown ho (gb_below (some w.heap.size) hb) (by have := own_lt ho; omega)

/-- The stamp's block, laid for the round. -/
theorem res_round {wr w5 : World} {cb : Nat} (hcb : cb < wr.heap.size) (hg : (wr.alloc (.cells #[.slice none 0 0, .pointer none, .int .i64 0, .int .u64 0] 35)).grownBy w5 (some cb)) : Res w5 wr.heap.size :=
  Res.of (by rw [hg.block wr.heap.size (by simp) (by simp; omega), heap_alloc_new])

theorem main_bad {w0 w4 w6 wr : World} {cb mb e n gb : Nat} {nm : ByteArray} {M : List Int} (H : Main w0 wr cb mb e n nm M) (K : Held w0 w4 cb mb e n gb nm M M) (hb : Below w4.heap.size w4 w6) : Main w0 w6 cb mb e n nm M :=
  ⟨(K.model hb).below, (K.model hb).cr, (K.model hb).own, H.ne, H.at0, H.u⟩

theorem main_good {w0 w4 w6 wr : World} {cb mb nb e n gb : Nat} {nm : ByteArray} {M A : List Int} (H : Main w0 wr cb mb e n nm M) (K : Held w0 w4 cb mb e n gb nm M (bump M A e)) (hb : Below w4.heap.size w4 w6) (he : e < n) (uA : U64 A) (hl : A.length ≤ n) (ho : (mxU M A A.length).getD e 0 ≠ 18446744073709551615)
    (hn : w4.heap.size ≤ nb) (hown : w6.ownsRow 0 31 1 (.slice (some ⟨nb, 0, none⟩) n n) n ((bump M A e).map (.int .u64))) : Main w0 w6 cb nb e n nm (bump M A e) := by
  have hM := H.cr.len
  exact ⟨(K.model hb).below, (K.model hb).cr, hown, by have := K.cr.lt; omega, H.at0, bump_u64 H.u uA e (by omega) (by omega) ho⟩

theorem Main.below' {w0 wr w' : World} {cb mb e n : Nat} {nm : ByteArray} {M : List Int} (H : Main w0 wr cb mb e n nm M) (hb : Below wr.heap.size wr w') : Main w0 w' cb mb e n nm M :=
  ⟨H.below.trans (hb.mono H.below.size), H.cr.below hb, own_keep H.own hb, H.ne, H.at0, H.u⟩

theorem Main.grown {w0 wr w' : World} {cb mb e n : Nat} {nm : ByteArray} {M : List Int} (H : Main w0 wr cb mb e n nm M) (hg : wr.grownBy w' (some cb)) (C : CR w' cb nm e n M) : Main w0 w' cb mb e n nm M :=
  ⟨below_gb H.below hg H.below.size H.at0, C, own_grown H.own hg H.ne, H.ne, H.at0, H.u⟩

theorem Main.drewN {w0 wr : World} {cb mb e n : Nat} {nm : ByteArray} {M : List Int} (H : Main w0 wr cb mb e n nm M) (q : Nat) : Main w0 (wr.drewN q) cb mb e n nm M :=
  H.below' (below_of_drewN (w := wr) (q := q) (Below.refl _ _))

theorem eq_same (ao bo : Option Addr) (n : Nat) (xs : List Int) (w : World) (hn : n ≤ 2000) (hx : RowAt w ao n xs) (hy : RowAt w bo n xs) :
    Calls Ybaf.prog 9 #[.slice ao n n, .slice bo n n] w fun e w' => e = .returned (.bool true) ∧ ∃ k, w' = w.drewN k := by
  refine (eq_any ao bo n n n n xs xs w hn hn hx hy).mono ?_
  rintro x w' ⟨rfl, h⟩
  exact ⟨by simp, h⟩

theorem tape_of {F : Interp} {w w' : World} {B : Nat} (hF : F.answers w.tape) (hb : Below B w w') : F.answers w'.tape := by
  rw [hb.tape]; exact hF
end Go.Proofs.YbulksesFmt
