/- The row of LawS0925BStretches, and its tied card. -/
import Derived.Test.YbulksdcDoorRows
import Derived.Test.YbulksdcDoorCards
import Derived.Test.YbulksdcDoorTie
import Derived.Test.YbulksdcDoorLaw
import Derived.ProofKit
import Derived.LaidMore
import Derived.OpenShut
import Derived.Stop.Joined
import Derived.Lib.LaidTab
import Derived.ChangeOld
import Derived.Below
import Derived.SevenTiedAt
namespace Go.Proofs.YbulksdcDoor
open Go.ChangeShapes Go.WideShapes Go.ChangeAt Go.RowKit

theorem own : ownKnob Ybad.prog.godebug = none := by kernel_rfl
theorem laidOut : laidOutB Ybad.prog = true := by kernel_rfl
/-- The table's name, as the row bears it. -/
def tabName : String := Rows.lawS0925BStretchesRow.named.headD ""
theorem gTab : Ybad.prog.globalNamed tabName = some 0 := by kernel_rfl

theorem gTabT : (Ybad.prog.globals[0]?).map (·.type) = some 59 := by kernel_rfl

/-- The table as the row lists it. -/
def laidL : List (String × DataW Unit) := Rows.lawS0925BStretchesRow.laid

theorem laid_is : laidL = [(tabName, Lib.tabData .u8 (Lib.deBruijn64tab.map fun n : Nat => (n : Int)))] := by kernel_rfl

theorem door_met (os : Os) (args : Array Value) : laidMetH Ybad.prog laidL ((World.doorLaid Ybad.prog 400 os).forCall (fun _ _ => 0) ⟨#[], args, []⟩).memory :=
  laidMetH_of_parts3 (fuel := 8) (laidMet_of_run' 8 (by kernel_rfl) (by kernel_rfl)) (by kernel_rfl) (by kernel_rfl)

theorem of_laid {W : World} (h : laidMetH Ybad.prog laidL W) : TabAt 0 Lib.deBruijn64tab W := by
  rw [MakeChecks.laidMetH_plain _ _ _ (by kernel_rfl), laid_is] at h
  have hT := Lib.tabIs_of_head gTab gTabT Ybad.underlying59 Ybad.underlying5 (by kernel_rfl) (by kernel_rfl) h
  intro j hj
  have := hT.cell gTab j (by simpa using hj)
  rw [this, List.getD_eq_getElem?_getD, List.getElem?_map, List.getElem?_eq_getElem hj, List.getD_eq_getElem?_getD, List.getElem?_eq_getElem hj]
  rfl

set_option maxHeartbeats 1000000 in
theorem law_long (a0 : Int) (ao : Option Addr) (h cap : Nat) (w : World) (hh : ¬ h ≤ 1024) (hm : h ≤ maxLen) :
    Calls Ybad.prog 3 #[.int .u16 a0, .slice ao h cap] w fun e w' => e = .returned (.bool true) ∧ Below w.heap.size w w' := by
  unfold maxLen at hm
  go_enter Ybad.func3, Ybad.ntmps3
  go_wp2
  go_ret
  exact ⟨rfl, Below.refl _ _⟩

/-- WHAT THE WALK IS TOLD OF A SLICE OF INTEGERS THAT CAME IN. -/
def IsRow (k : IntKind) (w : World) (a : Option Addr) (len cap : Nat) (zs : List Int) : Prop :=
  (a = none ∧ len = 0 ∧ cap = 0 ∧ zs = []) ∨
  ∃ x, a = some x ∧ len ≤ cap ∧ cap ≤ maxLen ∧ zs.length = cap ∧ (∀ i, i < zs.length → w.cell? (x.add i) = some (.int k (zs.getD i 0))) ∧ ∀ n ∈ zs, (Lit.int k n).wf = true

theorem getD_take_lt (zs : List Int) (n i : Nat) (h : i < n) : (zs.take n).getD i 0 = zs.getD i 0 := by
  rw [List.getD_eq_getElem?_getD, List.getD_eq_getElem?_getD, List.getElem?_take, if_pos h]

theorem walk (a0 : Int) (ao : Option Addr) (len cap : Nat) (zs : List Int) (w : World) (w0 : (Lit.int .u16 a0).wf = true) (w1 : IsRow .i8 w ao len cap zs) (hT : TabAt 0 Lib.deBruijn64tab w) :
    Calls Ybad.prog 3 #[.int .u16 a0, .slice ao len cap] w fun e w' => e = .returned (.bool true) ∧ Below w.heap.size w w' := by
  have hm : len ≤ maxLen := by
    rcases w1 with ⟨_, rfl, _⟩ | ⟨x, _, h1, h2, _⟩
    · unfold maxLen; omega
    · omega
  by_cases hl : len ≤ 1024
  · have hb0 := bounds_u16 w0
    obtain ⟨n, rfl⟩ : ∃ n : Nat, a0 = n := ⟨a0.toNat, by omega⟩
    refine law_some n ao len cap (zs.take len) w (by omega) hT hl ?_ ?_ ?_
    · rcases w1 with ⟨_, rfl, _, rfl⟩ | ⟨x, _, h1, _, h3, _⟩
      · rfl
      · simp; omega
    · intro k hk
      rcases w1 with ⟨_, rfl, _, rfl⟩ | ⟨x, rfl, h1, _, h3, hc, _⟩
      · omega
      · obtain ⟨b, off, rfl, hc'⟩ := ints_at hc (by omega)
        exact ⟨b, off, rfl, by rw [getD_take_lt _ _ _ hk]; exact hc' k (by omega)⟩
    · intro i
      rcases w1 with ⟨_, rfl, _, rfl⟩ | ⟨x, rfl, h1, _, h3, hc, hw⟩
      · simp
      · have := range_i8 (zs := zs.take len) (fun n hn => hw n (List.mem_of_mem_take hn)) i
        rw [List.getD_eq_getElem?_getD]
        exact this
  · exact law_long a0 ao len cap w hl hm

set_option maxRecDepth 100000 in
theorem lifted (os : Os) (started : os.Started) (H : Type) (enc : TypeId × Value → H) :
    ReturnsInHanded {} Ybad.checked os 3 .any (fun w args => (Rows.lawS0925BStretchesSpec.pre enc Ybad.prog Ybad.f3 [] false w args ∧ laidMetH Ybad.prog laidL w) ∧ sizedMet enc Ybad.prog Ybad.f3 (OpenSpec.ofChange Rows.lawS0925BStretchesSpec) false w args)
      (Rows.lawS0925BStretchesSpec.post enc Ybad.prog Ybad.f3 false true false false) := by
  refine returnsInHanded_of_change_and (C := Ybad.checked) (X := fun w _ => laidMetH Ybad.prog laidL w) (fun _ _ _ hh h => h.of_heap hh) own started (by kernel_rfl) Ybad.func3
    (ChangeSpec.witness_shaped (enc := enc) (C := Ybad.checked) (os := os) (X := fun w _ => laidMetH Ybad.prog laidL w) false (World.doorLaid Ybad.prog 400 os) #[.int .u16 0, .slice none 0 0] 8 rfl (World.shaped_of_RefB (by kernel_rfl) (by kernel_rfl)) (by kernel_rfl) (by kernel_rfl) (by kernel_rfl) (door_met os _)) ?_
  intro W base args ds gs before hval0 hW _ _ hL _
  have hval : ∀ (j : Nat) t v, Ybad.f3.params[j]? = some t → args[j]? = some v → Value.okWide Ybad.prog W .any base t v := hval0
  have hW' := hW
  obtain ⟨p, q, hA0, hV, rfl, hfz, hnd⟩ := hW
  have hA : DataW.TrodAll enc Ybad.prog W 0 (fun _ => true) true Ybad.f3.params.toList args.toList ds p := hA0
  rw [Ybad.params3] at hA hval
  obtain ⟨v0, vs0, d0, ds0, p0, q0, hargs, rfl, rfl, h0, r0⟩ := trodAll_cons hA
  obtain ⟨v1, vs1, d1, ds1, p1, q1, rfl, rfl, rfl, h1, r1⟩ := trodAll_cons r0
  obtain ⟨rfl, rfl, rfl⟩ := trodAll_nil r1
  obtain rfl : args = #[v0, v1] := by cases args; simp_all
  obtain ⟨rfl, rfl⟩ := trodVars_none hV
  obtain ⟨a0, rfl, rfl, rfl, w0⟩ := open_int Ybad.underlying22 (hval 0 22 v0 rfl rfl) h0
  obtain ⟨a1, len1, cap1, rfl⟩ := okWide_slice Ybad.underlying23 (hval 1 23 v1 rfl rfl)
  have k1 := h1
  have lt1 : ∀ x ∈ p1, x.block < W.heap.size := by obtain ⟨m, hm⟩ := k1; exact DataW.trod_lt m _ _ _ hm
  obtain ⟨z1, w1⟩ : ∃ zs, IsRow .i8 W a1 len1 cap1 zs := by
    obtain ⟨fuel, hf⟩ := h1
    rcases open_ints Ybad.underlying23 Ybad.underlying43 (by kernel_rfl) hf with ⟨hcs, _⟩ | ⟨x, l, c, zs, hcs, _, hl, hm, hz, _, hcell, hwz⟩
    · simp [Value.cells] at hcs
      obtain ⟨rfl, rfl, rfl⟩ := hcs
      exact ⟨[], .inl ⟨rfl, rfl, rfl, rfl⟩⟩
    · simp [Value.cells] at hcs
      obtain ⟨rfl, rfl, rfl⟩ := hcs
      exact ⟨zs, .inr ⟨_, rfl, hl, hm, by simpa using hz, hcell, hwz⟩⟩
  have hT := of_laid hL
  clear hA0 hval0
  refine (walk a0 a1 len1 cap1 z1 W w0 w1 hT).mono fun e W' ⟨he, bel⟩ => ?_
  subst he
  exact ⟨_, rfl, _, _, _, [], _, [], hW', trodAll_mk1 (shut_bool Ybad.underlying4 _), (trodAll_cons_mk (shut_int Ybad.underlying22 w0) (trodAll_cons_mk (Below.trod laidOut (by kernel_rfl) (of_decide_eq_true (by kernel_rfl)) k1 bel lt1) trodAll_mk0)), rfl, bel.frame _, fun h => by cases h⟩

theorem row_holds : Rows.LawS0925BStretchesSaid :=
  OpenClaim.holds_of_wide 3 Ybad.f3 rfl rfl rfl rfl rfl rfl rfl ⟨rfl, rfl, rfl, rfl, rfl⟩ rfl rfl rfl rfl rfl (by kernel_rfl) Ybad.func3 (by kernel_rfl)
    (of_decide_eq_true (by kernel_rfl)) (by unfold Func.isWrapper; first | (rw [if_pos (by decide +kernel)]; kernel_rfl) | (rw [if_neg (by decide +kernel)]; exact ⟨rfl, rfl⟩))
    (fun os started H enc _ => lifted os started H enc)

theorem proved : Rows.LawS0925BStretchesCardSaid :=
  Claim7.holds_tied_plain_at .later [] [.data] true (true, "c3478f8bd4000499743f17f08cc0a46d185f700a6d12420234cf15e9094060e5") false
    row_holds (fun _ h => by cases h) (by kernel_rfl) (fun _ h => by cases h) lawS0925BStretches_row_tie rfl ⟨rfl, rfl⟩ (by kernel_rfl) rfl
    (fun f fn hf hfn => by
      obtain rfl : f = 3 := Option.some.inj ((show Ybad.prog.funcNamed Ybad.f3.name = some 3 by kernel_rfl).symm.trans hf) |>.symm
      obtain rfl : fn = Ybad.f3 := (Option.some.inj (Ybad.func3.symm.trans hfn)).symm
      exact ⟨by kernel_rfl, fun j t ht => by
        rw [Ybad.params3] at ht
        have hm : t ∈ [22, 23] := by simpa using Array.mem_of_getElem? ht
        have hall : ([22, 23].all fun u => !Ybad.prog.wantsStandIn u) = true := by kernel_rfl
        exact (show Ybad.prog.wantsStandIn t = false by simpa using List.all_eq_true.1 hall t hm)⟩)
    (by kernel_rfl)
end Go.Proofs.YbulksdcDoor
