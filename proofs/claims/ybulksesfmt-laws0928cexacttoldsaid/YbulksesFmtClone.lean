/- countList: appendTo, clone. -/
import Derived.Test.YbulksesFmtCounts
import Derived.Deep.RegionLaw
namespace Go.Proofs.YbulksesFmt
open Go.RowKit

theorem info31 : (Ybaf.prog.info? 31).map (fun i => (i.zero, i.size, i.bytes)) = some (some (.int .u64 0), 1, 8) := by kernel_rfl

/-- append within the capacity onto a row of the call's own, as one step of a region that draws. -/
theorem step_append_own {P : Program} {ops : Array Oper} {o : Oper} {a : Act} {w : World} {K : Act → World → Prop} {Q : Exit → Act → World → Prop} {E : Prop}
    (hg : o.guard = none) (s x : Operand) (t : TypeId) (hop : o.op = Op.call { callee := Callee.builtin Builtin.append, args := #[s, x], argTypes := #[t, t] })
    (base : Nat) (e : TypeId) (i : TypeInfo) (size : Nat) (h1 : P.underlying t = some (.slice e)) (h2 : P.info? e = some i) (h4 : i.size = size)
    (g k cap : Nat) (xs : List Value) (hs : a.eval s = .slice (some ⟨g, 0, none⟩) k cap) (hown : w.ownsRow base e size (.slice (some ⟨g, 0, none⟩) k cap) k xs)
    (ad : Addr) (m c : Nat) (news : List Value) (hx : a.eval x = .slice (some ad) m c) (hn : news.length = m * size) (hc : ∀ j u, news[j]? = some u → w.cell? (ad.add j) = some u) (h1c : ∀ u ∈ news, u.oneCell' = true) (b1 : k + m ≤ cap)
    (hK : ∀ w', w'.ownsRow base e size (.slice (some ⟨g, 0, none⟩) (k + m) cap) (k + m) (xs ++ news) → w.grownBy w' (some g) → K (a.put o.dst (.slice (some ⟨g, 0, none⟩) (k + m) cap)) w') :
    if Region.wanted o (yielded ops a.tmps) = true then Oper.wp P o a w K Q else E := by
  have hw : Region.wanted o (yielded ops a.tmps) = true := by simp [Region.wanted, hg]
  rw [if_pos hw]
  obtain ⟨w', hrun, r1, r2⟩ := run_append_fits (P := P) w base t o.type e i size h1 h2 h4 g k cap xs hown ad m c news hn hc h1c b1
  unfold Oper.wp
  simp [execOp, hop, resolve, invoke, builtin, hs, hx, hrun, Result.andThen]
  exact hK w' r1 r2

theorem gb_refl (w : World) (row : Option Nat) : w.grownBy w row := ⟨rfl, rfl, rfl, Nat.le_refl _, fun _ _ _ => rfl⟩
theorem gb_trans {a b c : World} {row : Option Nat} (h : a.grownBy b row) (k : b.grownBy c row) : a.grownBy c row :=
  ⟨k.os.trans h.os, k.tape.trans h.tape, k.output.trans h.output, Nat.le_trans h.size k.size, fun i hi hn => (k.block i (Nat.lt_of_lt_of_le hi h.size) hn).trans (h.block i hi hn)⟩
theorem gb_drewN {a w : World} {row : Option Nat} (h : a.grownBy w row) (n : Nat) : a.grownBy (w.drewN n) row := ⟨h.os, h.tape, h.output, h.size, h.block⟩

theorem gb_of_drew {a w : World} {row : Option Nat} (h : a.drew.grownBy w row) : a.grownBy w row := ⟨h.os, h.tape, h.output, h.size, h.block⟩
theorem own_drewN {w : World} {base : Nat} {e : TypeId} {size : Nat} {v : Value} {n : Nat} {xs : List Value} (h : w.ownsRow base e size v n xs) (k : Nat) : (w.drewN k).ownsRow base e size v n xs := h

theorem own_cap {w : World} {base : Nat} {e : TypeId} {size g n cap : Nat} {xs : List Value} (h : w.ownsRow base e size (.slice (some ⟨g, 0, none⟩) n cap) n xs) : n ≤ cap := by
  rcases h.2 with ⟨h1, _⟩ | ⟨g', cap', cur, hv, _, _, hnc, _⟩
  · simp at h1
  · simp at hv; omega

/-- What a list reads as: its head, the patch in its place. -/
def rd (hs : List Int) (at_ : Nat) (p : Int) : List Int := if at_ = 0 then hs else hs.set (at_ - 1) p

set_option maxRecDepth 20000 in
set_option maxHeartbeats 2000000 in
theorem appendTo_any (b o g n cap d base at_ : Nat) (p : Int) (hs : List Int) (w : World) (C : CL w b o (.slice (some ⟨g, 0, none⟩) n cap) at_ p) (hn0 : 0 < n) (hn : n ≤ 2000) (ha : at_ ≤ n)
    (hown : w.ownsRow 0 31 1 (.slice (some ⟨g, 0, none⟩) n cap) n (hs.map (.int .u64))) (hd : w.ownsRow base 31 1 (.slice (some ⟨d, 0, none⟩) 0 n) 0 []) (hbd : d ≠ b) :
    Calls Ybaf.prog 34 #[.pointer (some ⟨b, o, none⟩), .slice (some ⟨d, 0, none⟩) 0 n, .int .i64 0, .int .i64 n] w
      fun e w' => e = .returned (.slice (some ⟨d, 0, none⟩) n n) ∧ w'.ownsRow base 31 1 (.slice (some ⟨d, 0, none⟩) n n) n ((rd hs at_ p).map (.int .u64)) ∧ w.grownBy w' (some d) := by
  obtain ⟨i0, hi, hz0, hz1, hz2⟩ := info_parts info31
  have hl : hs.length = n := by have := hown.1; simpa using this
  have hcap := own_cap hown
  obtain ⟨c0, c1, c2, c3⟩ := C
  go_enter Ybaf.func34, Ybaf.ntmps34
  go_wp2_with fail
  go_region_law (refine step_append_own rfl (.tmp 24) (.tmp 37) 22 rfl base 31 i0 1 Ybaf.underlying22 hi hz1 d 0 n [] (by simp [Act.eval, Act.put]) hd ⟨g, 0, none⟩ n cap (hs.map (.int .u64)) (by simp [Act.eval, Act.put]) (by simp [hl]) (hown.cells rfl) (ints_oneCell _ _) (by omega) ?_; intro w2 hd2 hg2)
  all_goals
    simp only [Nat.zero_add, List.nil_append] at hd2
    have C2 : CL w2 b o (.slice (some ⟨g, 0, none⟩) n cap) at_ p := ⟨hg2.cell c0 (by simp; omega), hg2.cell c1 (by simp; omega), hg2.cell c2 (by simp; omega), hg2.cell c3 (by simp; omega)⟩
    have e0 := C2.c0
    have e3 := C2.c3
    clear c0 c1 c2 c3 hd hown
    go_wp2_with fail
    go_loop [1, 10] (fun dv t => dv = .slice (some ⟨d, 0, none⟩) n n ∧ t = .int .i64 n) (fun _ _ => 0)
    case atStart => exact ⟨rfl, rfl⟩
    case round =>
      obtain ⟨rfl, rfl⟩ := hrel
      by_cases h0 : at_ = 0
      · subst h0
        go_wp2_with (go_at_call 43; go_must (refine (patched_any b o _ 0 p _ C2 (by omega)).mono ?_; rintro e w' ⟨rfl, k, rfl⟩))
        go_ret
        exact ⟨rfl, by rw [rd, if_pos rfl]; exact own_drewN hd2 _, gb_drewN (gb_of_drew hg2) _⟩
      · obtain ⟨q, hq⟩ : ∃ q, at_ = q + 1 := ⟨at_ - 1, by omega⟩
        subst hq
        have ht : ((q : Int) + 1 != 0) = true := by simp; omega
        have hcd := hd2.cellAt q (by omega)
        rw [List.getElem?_map, List.getElem?_eq_getElem (by omega)] at hcd
        have hfd := hd2.frozenAt q
        have hst := hd2.stored q (.int .u64 p)
        go_wp2_with (go_at_call 43; go_must (refine (patched_any b o _ (q + 1) p _ C2 (by omega)).mono ?_; rintro e w' ⟨rfl, k, rfl⟩))
        go_ret
        exact ⟨rfl, by rw [rd, if_neg (by omega), List.map_set]; exact own_drewN hst.1 _, gb_drewN (gb_trans (gb_of_drew hg2) hst.2) _⟩
end Go.Proofs.YbulksesFmt
