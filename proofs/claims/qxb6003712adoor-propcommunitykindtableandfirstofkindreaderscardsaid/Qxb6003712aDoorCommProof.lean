/-
  THE ROW AND THE TIED CARD OF PropCommunityKindTableAndFirstOfKindReaders (seat b6003712aD).
-/
import Derived.Test.Qxb6003712aDoorCommAll
import Derived.Test.Qxb6003712aDoorTie
import Derived.Test.Qxb6003712aDoorCards
import Derived.SevenTiedAt
namespace Go.Proofs.Qxb6003712aDoor
open Go.ChangeShapes Go.WideShapes Go.ChangeAt Go.RowKit
set_option linter.unusedVariables false
set_option maxRecDepth 100000

/-- The listed variable's name, off the given row. -/
def evpnC : String := Rows.propCommunityKindTableAndFirstOfKindReadersSpec.vars.headD ""
theorem gEvpnC : Tryd.prog.globalNamed evpnC = some 1 := by kernel_rfl
theorem tEvpnC : (Tryd.prog.globals[1]?).map (·.type) = some 92 := by kernel_rfl

/-- The kinds' table, off the row's condition. -/
theorem tab_ofC {W : World} (h : laidMetH Tryd.prog Rows.propCommunityKindTableAndFirstOfKindReadersRow.laid W) : Tab W := by
  rw [MakeChecks.laidMetH_plain _ _ _ (by kernel_rfl)] at h
  have hT : Lib.TabIs Tryd.prog W evpnC .u8 [4, 5, 6, 7, 8] := Lib.tabIs_of_head gEvpnC tEvpnC Tryd.underlying92 Tryd.underlying79 Tryd.cells79 Tryd.cells92 (rest := []) h
  intro i hi
  have hc := hT.cell gEvpnC i hi
  rw [hc]
  match i, hi with
  | 0, _ => rfl
  | 1, _ => rfl
  | 2, _ => rfl
  | 3, _ => rfl
  | 4, _ => rfl

/-- The door's own heap meets the condition. -/
theorem door_metC (os : Os) (args : Array Value) : laidMetH Tryd.prog Rows.propCommunityKindTableAndFirstOfKindReadersRow.laid ((World.doorLaid Tryd.prog 400 os).forCall (fun _ _ => 0) ⟨#[], args, []⟩).memory :=
  laidMetH_of_parts3 (fuel := 8) (laidMet_of_run' 8 (by kernel_rfl) (by kernel_rfl)) (by kernel_rfl) (by kernel_rfl)

set_option maxHeartbeats 1600000 in
set_option maxRecDepth 100000 in
theorem comm_lifted (os : Os) (started : os.Started) (H : Type) (enc : TypeId × Value → H) :
    ReturnsInHanded {} Tryd.checked os 3 .any (fun w args => (Rows.propCommunityKindTableAndFirstOfKindReadersSpec.pre enc Tryd.prog Tryd.f3 [] false w args ∧ laidMetH Tryd.prog Rows.propCommunityKindTableAndFirstOfKindReadersRow.laid w) ∧ sizedMet enc Tryd.prog Tryd.f3 (OpenSpec.ofChange Rows.propCommunityKindTableAndFirstOfKindReadersSpec) false w args)
      (Rows.propCommunityKindTableAndFirstOfKindReadersSpec.post enc Tryd.prog Tryd.f3 false true false false) := by
  refine returnsInHanded_of_change_and (C := Tryd.checked) (X := fun w _ => laidMetH Tryd.prog Rows.propCommunityKindTableAndFirstOfKindReadersRow.laid w) (fun _ _ _ hh h => h.of_heap hh) own started (by kernel_rfl) Tryd.func3
    (ChangeSpec.witness_shaped (enc := enc) (C := Tryd.checked) (os := os) (X := fun w _ => laidMetH Tryd.prog Rows.propCommunityKindTableAndFirstOfKindReadersRow.laid w) false (World.doorLaid Tryd.prog 400 os) #[.slice none 0 0, .int .u16 0, .agg #[.int .u8 0, .int .u8 0, .int .u8 0, .int .u8 0, .int .u8 0, .int .u8 0]] 8 rfl (World.shaped_of_RefB (by kernel_rfl) (by kernel_rfl)) (by kernel_rfl) (by kernel_rfl) (by kernel_rfl) (door_metC os _)) ?_
  intro W base args ds gs before hval0 hW _ _ hL _
  have hval : ∀ (j : Nat) t v, Tryd.f3.params[j]? = some t → args[j]? = some v → Value.okWide Tryd.prog W .any base t v := hval0
  have hW' := hW
  obtain ⟨p, q, hA0, hV0, rfl, hfz, hnd⟩ := hW
  have hA : DataW.TrodAll enc Tryd.prog W 0 (fun _ => true) true Tryd.f3.params.toList args.toList ds p := hA0
  have hV : DataW.TrodVars enc Tryd.prog W (fun _ => true) [evpnC] gs q := hV0
  rw [Tryd.params3] at hA hval
  obtain ⟨v0, v1, v2, d0, d1, d2, p0, p1, p2, rfl, rfl, rfl, h0, h1, h2⟩ := trodAll_three hA
  obtain ⟨g, t, cs, fuel, d, p', rfl, hg, ht, hvar, hd, rfl⟩ := trodVars_one hV
  obtain rfl := Option.some.inj (gEvpnC.symm.trans hg)
  obtain rfl := Option.some.inj (tEvpnC.symm.trans ht)
  obtain ⟨a0, len0, cap0, rfl⟩ := okWide_slice Tryd.underlying22 (hval 0 22 v0 rfl rfl)
  obtain ⟨tt, rfl, rfl, rfl, wt⟩ := open_int Tryd.underlying24 (hval 1 24 v1 rfl rfl) h1
  obtain ⟨m, rfl⟩ := agg26 (hval 2 26 v2 rfl rfl)
  have k0 := h0
  have k2 := h2
  have lt0 : ∀ x ∈ p0, x.block < W.heap.size := by obtain ⟨m, hm⟩ := k0; exact DataW.trod_lt m _ _ _ hm
  have lt2 : ∀ x ∈ p2, x.block < W.heap.size := by obtain ⟨m, hm⟩ := k2; exact DataW.trod_lt m _ _ _ hm
  have ltv : ∀ x ∈ p', x.block < W.heap.size := DataW.trod_lt fuel _ _ _ hd
  obtain ⟨cms, hcoms⟩ := open_coms h0
  obtain ⟨m0, m1, m2, m3, m4, m5, hb, rfl⟩ : ∃ v0 v1 v2 v3 v4 v5 : Int, ((0 ≤ v0 ∧ v0 ≤ 255) ∧ (0 ≤ v1 ∧ v1 ≤ 255) ∧ (0 ≤ v2 ∧ v2 ≤ 255) ∧ (0 ≤ v3 ∧ v3 ≤ 255) ∧ (0 ≤ v4 ∧ v4 ≤ 255) ∧ (0 ≤ v5 ∧ v5 ≤ 255)) ∧ m = #[.int .u8 v0, .int .u8 v1, .int .u8 v2, .int .u8 v3, .int .u8 v4, .int .u8 v5] := by
    obtain ⟨f, hf⟩ := h2
    simp only [Value.cells] at hf
    obtain ⟨v0, v1, v2, v3, v4, v5, hb, e⟩ := mac_of_trod hf
    exact ⟨v0, v1, v2, v3, v4, v5, hb, Array.toList_inj.1 e⟩
  have htab := tab_ofC hL
  have hs1 : 1 < W.heap.size := World.block_lt_of_cell? _ _ (htab 0 (by omega))
  clear hA0 hV0 hval0
  refine (comm_any a0 len0 cap0 cms tt m0 m1 m2 m3 m4 m5 W hs1 htab hcoms (bounds_u16 wt) hb).mono fun e W' ⟨he, bel⟩ => ?_
  subst he
  obtain ⟨fuel', hd'⟩ := Below.trod laidOut (by kernel_rfl) (of_decide_eq_true (by kernel_rfl)) (v := .agg cs) (⟨fuel, by simpa [Value.cells] using hd⟩ : DataW.Trod enc Tryd.prog W 0 (fun _ => true) true 92 (.agg cs) d p') bel ltv
  have hv' := trodVars_mk1 (enc := enc) (spare := fun b => decide (b < W.heap.size)) hg ht (var?_below bel hg hs1 hvar) (by simpa [Value.cells] using hd')
  refine ⟨_, rfl, _, _, _, [], (p0 ++ ([] ++ p2)), (MemPlace.row ⟨1, 0, none⟩ cs.size ++ p'), hW', ?_, ?_, ?_, bel.frame _, fun h => by cases h⟩
  · exact trodAll_mk1 (shut_bool Tryd.underlying4 _)
  · exact trodAll_mk3 (Below.trod laidOut (by kernel_rfl) (of_decide_eq_true (by kernel_rfl)) k0 bel lt0) (shut_int Tryd.underlying24 wt) (Below.trod laidOut (by kernel_rfl) (of_decide_eq_true (by kernel_rfl)) k2 bel lt2)
  · exact hv'

/-- THE ROW. -/
theorem comm_row : Rows.PropCommunityKindTableAndFirstOfKindReadersSaid :=
  OpenClaim.holds_of_wide 3 Tryd.f3 rfl rfl rfl rfl rfl rfl rfl ⟨rfl, rfl, rfl, rfl, rfl⟩ rfl rfl rfl rfl rfl (by kernel_rfl) Tryd.func3 (by kernel_rfl)
    (of_decide_eq_true (by kernel_rfl)) (by unfold Func.isWrapper; first | (rw [if_pos (by decide +kernel)]; kernel_rfl) | (rw [if_neg (by decide +kernel)]; exact ⟨rfl, rfl⟩))
    (fun os started H enc _ => comm_lifted os started H enc)

/-- THE TIED CARD. -/
theorem comm_card : Rows.PropCommunityKindTableAndFirstOfKindReadersCardSaid :=
  Claim7.holds_tied_plain_at .later [] [.data] true Rows.propCommunityKindTableAndFirstOfKindReadersCard.stood.harness false
    comm_row (fun _ h => by cases h) (by kernel_rfl) (fun _ h => by cases h) propCommunityKindTableAndFirstOfKindReaders_row_tie rfl ⟨rfl, rfl⟩ (by kernel_rfl) rfl
    (fun f fn hf hfn => by
      obtain rfl : f = 3 := Option.some.inj ((show Tryd.prog.funcNamed Rows.propCommunityKindTableAndFirstOfKindReadersRow.func = some 3 by kernel_rfl).symm.trans hf) |>.symm
      obtain rfl : fn = Tryd.f3 := (Option.some.inj (Tryd.func3.symm.trans hfn)).symm
      exact ⟨by kernel_rfl, fun j t ht => by
        rw [Tryd.params3] at ht
        have hm : t ∈ [22, 24, 26] := by simpa using Array.mem_of_getElem? ht
        have hall : ([22, 24, 26].all fun u => !Tryd.prog.wantsStandIn u) = true := by kernel_rfl
        exact (show Tryd.prog.wantsStandIn t = false by simpa using List.all_eq_true.1 hall t hm)⟩)
    (by kernel_rfl)

end Go.Proofs.Qxb6003712aDoor
