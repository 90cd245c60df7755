/-
  THE ROW AND THE TIED CARD OF PropVNILabelsAndSplitHorizonByEncapsulation (seat b6003712aD).
-/
import Derived.Test.Qxb6003712aDoorOpen
import Derived.Test.Qxb6003712aDoorTie
import Derived.Test.Qxb6003712aDoorCards
import Derived.SevenTiedAt
namespace Go.Proofs.Qxb6003712aDoor
open Go.ChangeShapes Go.WideShapes Go.ChangeAt Go.RowKit
set_option linter.unusedVariables false

/-- The listed variable's name, off the given row. -/
def evpn : String := Rows.propVNILabelsAndSplitHorizonByEncapsulationSpec.vars.headD ""
theorem gEvpn : Tryd.prog.globalNamed evpn = some 1 := by kernel_rfl
theorem tEvpn : (Tryd.prog.globals[1]?).map (·.type) = some 92 := by kernel_rfl

/-- The kinds' table, off the row's condition. -/
theorem tab_of {W : World} (h : laidMetH Tryd.prog Rows.propVNILabelsAndSplitHorizonByEncapsulationRow.laid W) : Tab W := by
  rw [MakeChecks.laidMetH_plain _ _ _ (by kernel_rfl)] at h
  have hT : Lib.TabIs Tryd.prog W evpn .u8 [4, 5, 6, 7, 8] := Lib.tabIs_of_head gEvpn tEvpn Tryd.underlying92 Tryd.underlying79 Tryd.cells79 Tryd.cells92 (rest := []) h
  intro i hi
  have hc := hT.cell gEvpn i hi
  rw [hc]
  match i, hi with
  | 0, _ => rfl
  | 1, _ => rfl
  | 2, _ => rfl
  | 3, _ => rfl
  | 4, _ => rfl

/-- The door's own heap meets the condition. -/
theorem door_met (os : Os) (args : Array Value) : laidMetH Tryd.prog Rows.propVNILabelsAndSplitHorizonByEncapsulationRow.laid ((World.doorLaid Tryd.prog 400 os).forCall (fun _ _ => 0) ⟨#[], args, []⟩).memory :=
  laidMetH_of_parts3 (fuel := 8) (laidMet_of_run' 8 (by kernel_rfl) (by kernel_rfl)) (by kernel_rfl) (by kernel_rfl)

set_option maxHeartbeats 1600000 in
set_option maxRecDepth 100000 in
theorem vni_lifted (os : Os) (started : os.Started) (H : Type) (enc : TypeId × Value → H) :
    ReturnsInHanded {} Tryd.checked os 4 .any (fun w args => (Rows.propVNILabelsAndSplitHorizonByEncapsulationSpec.pre enc Tryd.prog Tryd.f4 [] false w args ∧ laidMetH Tryd.prog Rows.propVNILabelsAndSplitHorizonByEncapsulationRow.laid w) ∧ sizedMet enc Tryd.prog Tryd.f4 (OpenSpec.ofChange Rows.propVNILabelsAndSplitHorizonByEncapsulationSpec) false w args)
      (Rows.propVNILabelsAndSplitHorizonByEncapsulationSpec.post enc Tryd.prog Tryd.f4 false true false false) := by
  refine returnsInHanded_of_change_and (C := Tryd.checked) (X := fun w _ => laidMetH Tryd.prog Rows.propVNILabelsAndSplitHorizonByEncapsulationRow.laid w) (fun _ _ _ hh h => h.of_heap hh) own started (by kernel_rfl) Tryd.func4
    (ChangeSpec.witness_shaped (enc := enc) (C := Tryd.checked) (os := os) (X := fun w _ => laidMetH Tryd.prog Rows.propVNILabelsAndSplitHorizonByEncapsulationRow.laid w) false (World.doorLaid Tryd.prog 400 os) #[.slice none 0 0] 8 rfl (World.shaped_of_RefB (by kernel_rfl) (by kernel_rfl)) (by kernel_rfl) (by kernel_rfl) (by kernel_rfl) (door_met os _)) ?_
  intro W base args ds gs before hval0 hW _ _ hL _
  have hval : ∀ (j : Nat) t v, Tryd.f4.params[j]? = some t → args[j]? = some v → Value.okWide Tryd.prog W .any base t v := hval0
  have hW' := hW
  obtain ⟨p, q, hA0, hV0, rfl, hfz, hnd⟩ := hW
  have hA : DataW.TrodAll enc Tryd.prog W 0 (fun _ => true) true Tryd.f4.params.toList args.toList ds p := hA0
  have hV : DataW.TrodVars enc Tryd.prog W (fun _ => true) [evpn] gs q := hV0
  rw [Tryd.params4] at hA hval
  obtain ⟨v0, d0, rfl, rfl, h0⟩ := trodAll_one hA
  obtain ⟨g, t, cs, fuel, d, p', rfl, hg, ht, hvar, hd, rfl⟩ := trodVars_one hV
  obtain rfl := Option.some.inj (gEvpn.symm.trans hg)
  obtain rfl := Option.some.inj (tEvpn.symm.trans ht)
  obtain ⟨a0, len0, cap0, rfl⟩ := okWide_slice Tryd.underlying22 (hval 0 22 v0 rfl rfl)
  have k0 := h0
  have lt0 : ∀ x ∈ p, x.block < W.heap.size := by obtain ⟨m, hm⟩ := k0; exact DataW.trod_lt m _ _ _ hm
  have ltv : ∀ x ∈ p', x.block < W.heap.size := DataW.trod_lt fuel _ _ _ hd
  obtain ⟨cms, hcoms⟩ := open_coms h0
  have htab := tab_of hL
  have hs1 : 1 < W.heap.size := World.block_lt_of_cell? _ _ (htab 0 (by omega))
  clear hA0 hV0 hval0
  refine (vni_any a0 len0 cap0 cms W hs1 htab hcoms).mono fun e W' ⟨he, bel⟩ => ?_
  subst he
  obtain ⟨fuel', hd'⟩ := Below.trod laidOut (by kernel_rfl) (of_decide_eq_true (by kernel_rfl)) (v := .agg cs) (⟨fuel, by simpa [Value.cells] using hd⟩ : DataW.Trod enc Tryd.prog W 0 (fun _ => true) true 92 (.agg cs) d p') bel ltv
  have hv' := trodVars_mk1 (enc := enc) (spare := fun b => decide (b < W.heap.size)) hg ht (var?_below bel hg hs1 hvar) (by simpa [Value.cells] using hd')
  refine ⟨_, rfl, _, _, _, [], p, (MemPlace.row ⟨1, 0, none⟩ cs.size ++ p'), hW', ?_, ?_, ?_, bel.frame _, fun h => by cases h⟩
  · exact trodAll_mk1 (shut_bool Tryd.underlying4 _)
  · exact trodAll_mk1 (Below.trod laidOut (by kernel_rfl) (of_decide_eq_true (by kernel_rfl)) k0 bel lt0)
  · exact hv'

/-- THE ROW. -/
theorem vni_row : Rows.PropVNILabelsAndSplitHorizonByEncapsulationSaid :=
  OpenClaim.holds_of_wide 4 Tryd.f4 rfl rfl rfl rfl rfl rfl rfl ⟨rfl, rfl, rfl, rfl, rfl⟩ rfl rfl rfl rfl rfl (by kernel_rfl) Tryd.func4 (by kernel_rfl)
    (of_decide_eq_true (by kernel_rfl)) (by unfold Func.isWrapper; first | (rw [if_pos (by decide +kernel)]; kernel_rfl) | (rw [if_neg (by decide +kernel)]; exact ⟨rfl, rfl⟩))
    (fun os started H enc _ => vni_lifted os started H enc)

/-- THE TIED CARD. -/
theorem vni_card : Rows.PropVNILabelsAndSplitHorizonByEncapsulationCardSaid :=
  Claim7.holds_tied_plain_at .later [] [.data] true Rows.propVNILabelsAndSplitHorizonByEncapsulationCard.stood.harness false
    vni_row (fun _ h => by cases h) (by kernel_rfl) (fun _ h => by cases h) propVNILabelsAndSplitHorizonByEncapsulation_row_tie rfl ⟨rfl, rfl⟩ (by kernel_rfl) rfl
    (fun f fn hf hfn => by
      obtain rfl : f = 4 := Option.some.inj ((show Tryd.prog.funcNamed Rows.propVNILabelsAndSplitHorizonByEncapsulationRow.func = some 4 by kernel_rfl).symm.trans hf) |>.symm
      obtain rfl : fn = Tryd.f4 := (Option.some.inj (Tryd.func4.symm.trans hfn)).symm
      exact ⟨by kernel_rfl, fun j t ht => by
        rw [Tryd.params4] at ht
        have hm : t ∈ [22] := by simpa using Array.mem_of_getElem? ht
        have hall : ([22].all fun u => !Tryd.prog.wantsStandIn u) = true := by kernel_rfl
        exact (show Tryd.prog.wantsStandIn t = false by simpa using List.all_eq_true.1 hall t hm)⟩)
    (by kernel_rfl)

end Go.Proofs.Qxb6003712aDoor
