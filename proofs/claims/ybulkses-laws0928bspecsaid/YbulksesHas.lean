import Derived.Test.YbulksesProg
import Derived.WalkKit
import Derived.Deep.QuietTactic
import Derived.BigQuiet
namespace Go.Proofs.Ybulkses
open Go.RowKit

/-- t holds l at offset a. -/
def hasL (t : List UInt8) (a : Nat) (l : List UInt8) : Bool := decide (a + l.length ≤ t.length) && decide ((t.drop a).take l.length = l)

theorem ret_bool {a b : Bool} (h : a = b) : Ending.returned (.bool a) = .returned (.bool b) := by rw [h]

theorem len_data (s : ByteArray) : s.data.toList.length = s.size := by simp

theorem hasL_short (t l : ByteArray) (a : Nat) (h : ¬ a + l.size ≤ t.size) : hasL t.data.toList a l.data.toList = false := by
  unfold hasL
  rw [len_data, len_data, decide_eq_false h, Bool.false_and]

theorem getElem_data (s : ByteArray) (k : Nat) (h : k < s.size) : s.data.toList[k]? = some s[k] := by
  rw [List.getElem?_eq_getElem (by simpa using h)]; rfl

theorem hasL_bad (t l : ByteArray) (a k : Nat) (hk : k < l.size) (hat : a + k < t.size) (hne : t[a + k] ≠ l[k]) : hasL t.data.toList a l.data.toList = false := by
  unfold hasL
  have : ¬ (t.data.toList.drop a).take l.data.toList.length = l.data.toList := by
    intro e
    have h1 := congrArg (·[k]?) e
    simp only [List.getElem?_take, List.getElem?_drop, len_data, hk, if_true, getElem_data t (a + k) hat, getElem_data l k hk] at h1
    exact hne (Option.some.inj h1)
  rw [decide_eq_false this, Bool.and_false]

/-- The first k bytes agree. -/
def agree (t l : ByteArray) (a k : Nat) : Prop := ∀ j, j < k → t.data.toList[a + j]? = l.data.toList[j]?

theorem hasL_good (t l : ByteArray) (a : Nat) (h : a + l.size ≤ t.size) (hg : agree t l a l.size) : hasL t.data.toList a l.data.toList = true := by
  unfold hasL
  rw [len_data, len_data, decide_eq_true h, Bool.true_and, decide_eq_true_eq]
  apply List.ext_getElem?
  intro j
  by_cases hj : j < l.size
  · rw [List.getElem?_take, if_pos hj, List.getElem?_drop]; exact hg j hj
  · rw [List.getElem?_take, if_neg hj, List.getElem?_eq_none (by rw [len_data]; omega)]

theorem agree_succ (t l : ByteArray) (a k : Nat) (hk : k < l.size) (hat : a + k < t.size) (he : t[a + k] = l[k]) (hg : agree t l a k) : agree t l a (k + 1) := by
  intro j hj
  by_cases h : j = k
  · subst h; rw [getElem_data t _ hat, getElem_data l _ hk, he]
  · exact hg j (by omega)

theorem index_at (s : ByteArray) (k : Nat) (h : k < s.size) : ∀ w, (Instr.index 9 (.string s) (.int .i64 (k : Int))).run Yba.prog w = .ok (.int .u8 (s[k].toNat : Int)) w := by
  intro w
  rw [run_index_string w 9 s .i64 k Yba.underlying9, dif_pos (by omega)]
  rfl

set_option maxHeartbeats 1000000 in
theorem hasLiteral_any (t l : ByteArray) (a : Nat) (w : World) (ht : t.size ≤ 10000) (hl : l.size ≤ 10000) (ha : a ≤ 10000) :
    Calls Yba.prog 6 #[.string t, .int .i64 a, .string l] w fun e w' => e = .returned (.bool (hasL t.data.toList a l.data.toList)) ∧ ∃ n, w' = w.drewN n := by
  by_cases h : a + l.size ≤ t.size
  · go_enter Yba.func6, Yba.ntmps6
    go_wp2_with fail
    go_loopw [7] (fun i wr => ∃ k : Nat, k ≤ l.size ∧ i = .int .i64 k ∧ Hid (agree t l a k) ∧ ∃ n, wr = w.drewN n) (fun i _ => l.size - (intOf i).toNat)
    case atStart => exact ⟨0, Nat.zero_le _, rfl, fun j hj => by omega, 0, rfl⟩
    case round =>
      obtain ⟨k, hk, rfl, HA, n, rfl⟩ := hrel
      by_cases hlt : k < l.size
      · have hak : a + k < t.size := by omega
        have hwr : IntKind.i64.wrap ((a : Int) + (k : Int)) = (a : Int) + (k : Int) := by rw [IntKind.wrap_i64]; omega
        have hix := index_at t (a + k) hak
        have hiy := index_at l k hlt
        rw [show ((a + k : Nat) : Int) = (a : Int) + (k : Int) by omega] at hix
        by_cases he : t[a + k] = l[k]
        · have he' : (((t[a + k].toNat : Int)) != (l[k].toNat : Int)) = false := by rw [he]; simp
          have HE : Hid _ := he
          clear he
          go_wp2_with fail
          go_quiet (fail)
          go_wp2_with fail
          go_roundw
          case rel => exact ⟨k + 1, by omega, by go_num, agree_succ t l a k hlt hak HE.out HA.out, _, rfl⟩
          case measure => simp [intOf]; omega
        · have he' : (((t[a + k].toNat : Int)) != (l[k].toNat : Int)) = true := by
            simp only [bne_iff_ne, ne_eq]
            intro e
            exact he (UInt8.toNat_inj.1 (by omega))
          have HE : Hid _ := he
          clear he
          go_wp2_with fail
          go_quiet (fail)
          go_wp2_with fail
          go_ret
          exact ⟨ret_bool (hasL_bad t l a k hlt hak HE.out).symm, n + nq, by rw [World.drewN_drewN]⟩
      · go_wp2_with fail
        go_ret
        have hkl : k = l.size := by omega
        subst hkl
        exact ⟨ret_bool (hasL_good t l a h HA.out).symm, _, rfl⟩
  · go_enter Yba.func6, Yba.ntmps6
    go_wp2_with fail
    go_ret
    exact ⟨ret_bool (hasL_short t l a h).symm, 0, rfl⟩
end Go.Proofs.Ybulkses
