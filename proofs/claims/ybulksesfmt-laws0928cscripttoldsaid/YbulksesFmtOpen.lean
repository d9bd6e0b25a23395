/- The arguments and the variables, opened. -/
import Derived.Test.YbulksesFmtArms
import Derived.Test.YbulksesFmtTie
import Derived.ProofKit
import Derived.OpenShut
import Derived.OpenVars
import Derived.ChangeOld
import Derived.Stop.JoinedAt
import Derived.Stop.JoinedTold
import Derived.Stop.LaidErr
import Derived.Stop.LaidTwo
import Derived.Deep.SlicePairs
import Derived.Deep.DeepWitnessRef
import Derived.LaidMore
namespace Go.Proofs.YbulksesFmt
open Go.ChangeShapes Go.WideShapes Go.ChangeAt Go.RowKit Go.Kit
open Go.Extern.Stop Go.Stop Go.Extern

theorem own : ownKnob Ybaf.prog.godebug = none := by kernel_rfl
theorem laidOut : laidOutB Ybaf.prog = true := by kernel_rfl
theorem row93 (u : TypeId) (h : Ybaf.prog.typeName? 3 u = Ybaf.prog.typeName? 3 93) : u = 93 :=
  typeName_ptr_named (nm := "errors.errorString") (by kernel_rfl) (by kernel_rfl) (by decide) u (h.trans (by kernel_rfl))

theorem sent_of {W : World} (h : laidMetH Ybaf.prog Rows.lawS0928CScriptRow.laid W) : ∃ sa st c t, Sent W sa st ∧ W.heap[sa.block]? = some (.cells c t (0, 0)) := by
  rw [MakeChecks.laidMetH_plain _ _ _ (by kernel_rfl)] at h
  obtain ⟨a0, a1, s0, s1, c0, c1, t0, t1, hv0, hv1, hc0, hs0, hz0, hc1, hs1, hz1, hne, hb0, hb1⟩ := laid_sentinels2 (g0 := 1) (g1 := 0) (ti := 27) h (by kernel_rfl) (by kernel_rfl) (by kernel_rfl) (by kernel_rfl) Ybaf.underlying27 (fun u hu => row93 u (hu.trans (by kernel_rfl))) Ybaf.underlying93 Ybaf.underlying95 rfl rfl Ybaf.underlying9 (by kernel_rfl) (by kernel_rfl)
  exact ⟨a1, s1, c1, t1, ⟨by simpa using World.var?_cell (g := 0) (by kernel_rfl) hv1 0, hc1⟩, hb1⟩

section
variable {H : Type} {enc : TypeId × Value → H} {W : World}

theorem rowOf {fuel : Nat} {v : Value} {x : DataW H × List MemPlace} (hf : DataW.trod enc Ybaf.prog W 0 (fun _ => true) true fuel 22 [v] = some x) : ∃ ao k c A, v = .slice ao k c ∧ RowAt W ao k A ∧ U64 A := by
  rcases open_ints Ybaf.underlying22 Ybaf.underlying31 (by kernel_rfl) hf with ⟨hcs, _⟩ | ⟨a, l, c, zs, hcs, _, hl, hm, hz, _, hcell, hwz⟩
  · simp at hcs
    subst hcs
    exact ⟨none, 0, 0, [], rfl, rowAt_nil _ _, u64_nil⟩
  · simp at hcs
    subst hcs
    have hz' : zs.length = c := by simpa using hz
    refine ⟨some a, l, c, zs.take l, rfl, ⟨by simp; omega, fun j hj => ?_⟩, fun i => ?_⟩
    · obtain ⟨b, off, rfl, hc'⟩ := ints_at hcell (by omega)
      exact ⟨b, off, rfl, by rw [List.getD_eq_getElem?_getD, List.getElem?_take, if_pos hj, ← List.getD_eq_getElem?_getD]; exact hc' j (by omega)⟩
    · have := range_u64 (zs := zs.take l) (fun n hn => hwz n (List.mem_of_mem_take hn)) i
      rw [List.getD_eq_getElem?_getD]
      exact this

theorem opsOf {fuel : Nat} {v : Value} {x : DataW H × List MemPlace} (hf : DataW.trod enc Ybaf.prog W 0 (fun _ => true) true fuel 46 [v] = some x) : ∃ oo m oc op ao k c A, v = .slice oo m oc ∧ OpsAt W oo m op ao k c A := by
  rcases Deep.open_slice_pairs Ybaf.underlying46 Ybaf.underlying48 (by kernel_rfl) rfl rfl (by kernel_rfl) (by kernel_rfl) hf with ⟨hcs, _⟩ | ⟨a, len, cap, m, n, V0, V1, D0, D1, P0, P1, hcs, _, hl, hm, hmm, _, hx⟩
  · simp at hcs
    subst hcs
    exact ⟨none, 0, 0, fun _ => 0, fun _ => none, fun _ => 0, fun _ => 0, fun _ => [], rfl, fun j hj => absurd hj (Nat.not_lt_zero _)⟩
  · simp at hcs
    subst hcs
    have hm' : m = cap := by simpa using hmm
    subst hm'
    have each : ∀ j, j < len → ∃ q : Nat × Option Addr × Nat × Nat × List Int, ∃ b off, some a = some ⟨b, off, none⟩ ∧ W.cell? ⟨b, off + j * 2, none⟩ = some (.int .u8 q.1) ∧ W.cell? ⟨b, off + j * 2 + 1, none⟩ = some (.slice q.2.1 q.2.2.1 q.2.2.2.1) ∧ RowAt W q.2.1 q.2.2.1 q.2.2.2.2 ∧ U64 q.2.2.2.2 ∧ q.1 ≤ 255 := by
      intro j hj
      obtain ⟨e0, e1, t0, t1⟩ := hx j (by omega)
      obtain ⟨z, hz, _, hw⟩ := DataW.trod_int Ybaf.underlying5 t0
      simp at hz
      have hb := bounds_u8 hw
      obtain ⟨ao, k, c, A, hv, hr, hu⟩ := rowOf t1
      obtain ⟨b, off, spot⟩ := a
      have hspot : spot = none := by simpa [Addr.add] using World.cell?_spot (hx 0 (by omega)).1
      subst hspot
      rw [add_plain] at e0 e1
      refine ⟨(z.toNat, ao, k, c, A), b, off, rfl, ?_, ?_, hr, hu, by simp; omega⟩
      · rw [e0, hz]
        simp
        omega
      · rw [← hv, ← e1, Nat.add_assoc]
    obtain ⟨q, hq⟩ := Deep.choose_lt each
    exact ⟨some a, len, m, fun j => (q j).1, fun j => (q j).2.1, fun j => (q j).2.2.1, fun j => (q j).2.2.2.1, fun j => (q j).2.2.2.2, rfl, hq⟩
end

theorem door_met (os : Os) (args : Array Value) : laidMetH Ybaf.prog Rows.lawS0928CScriptRow.laid ((World.doorLaid Ybaf.prog 400 os).forCall (fun _ _ => 0) ⟨#[], args, []⟩).memory :=
  laidMetH_of_parts3 (fuel := 8) (laidMet_of_run' 8 (by kernel_rfl) (by kernel_rfl)) (by kernel_rfl) (by kernel_rfl)

theorem stops : Ybaf.pinned.checked.prog.stops = ["fmt.errorf"] := by kernel_rfl
theorem stopKnobs : Ybaf.pinned.checked.prog.stopKnobs = [] := by kernel_rfl
theorem quiet (os : Os) : Stop.quiet Ybaf.pinned.checked.prog os := by
  intro k hk
  rw [stopKnobs] at hk
  cases hk
end Go.Proofs.YbulksesFmt
