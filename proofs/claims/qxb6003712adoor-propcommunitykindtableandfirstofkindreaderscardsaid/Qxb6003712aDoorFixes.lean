/-
  fixesSplitHorizon (seat b6003712aD).
-/
import Derived.Test.Qxb6003712aDoorRange
namespace Go.Proofs.Qxb6003712aDoor
open Go.RowKit Go.Shelf
set_option linter.unusedVariables false
attribute [local go_sem] Oper.semAt_some

set_option maxRecDepth 100000 in
set_option maxHeartbeats 2000000 in
theorem fixes_in (n : Nat) (hn : 3 ≤ n) (Pp : Nat) (sv : Value) (cs : List Pl.Com) (hm : cs.length ≤ 1048576) (hok : ∀ c ∈ cs, c.ok) (w : World) (hs1 : 1 < w.heap.size) (hPp : Pp < w.heap.size)
    (hp : w.cell? ⟨Pp, 3, none⟩ = some sv) (hS : Sv w.heap.size w sv cs) (ht : Tab w) :
    CallsIn Fence.wide n Tryd.prog 30 #[.pointer (some ⟨Pp, 0, none⟩)] w fun e W' => e = .returned (.bool (fsh (tts cs))) ∧ Below w.heap.size w W' := by
  have h1 : 1 ≤ n := by omega
  refine callsIn_of_wp_marks Tryd.func30 rfl trivial ?_ rfl
  simp only [Tryd.ntmps30, List.size_toArray, List.length_cons, List.length_nil, Nat.reduceAdd, Nat.reduceSub, Array.replicate_succ, Array.replicate_zero, List.push_toArray, List.append_toArray, List.nil_append, List.cons_append]
  gi_wp2_with (refine ⟨trivial, ?_⟩; gi_at_call 29; refine (tunnelTypes_in (n - 1) _ _).mono ?_; rintro e w' ⟨rfl, rfl⟩)
  have c0 := new_cell w (.bool false) 4
  have c1 := new_cell (w.alloc (.cells #[.bool false] 4)) (.bool false) 4
  have c2 := new_cell ((w.alloc (.cells #[.bool false] 4)).alloc (.cells #[.bool false] 4)) (.pointer (some ⟨Pp, 0, none⟩)) 27
  simp only [World.size_alloc] at c1 c2
  have hB0 : Below w.heap.size w (((w.alloc (.cells #[.bool false] 4)).alloc (.cells #[.bool false] 4)).alloc (.cells #[.pointer (some ⟨Pp, 0, none⟩)] 27)) := (((Below.refl _ w).alloc (Nat.le_refl _) _).alloc (by simp) _).alloc (by simp; omega) _
  refine wpIn_rangeFunc_ownF rfl h1 (gf := 31) (lb := #[.pointer (some ⟨w.heap.size + 1 + 1, 0, none⟩)]) rfl trivial (enters_of Tryd.func31 (by kernel_rfl) rfl)
    (tunnels_stop (n - 1) (by omega) (w.heap.size + 1 + 1) Pp w.heap.size sv cs hm hok hs1 _ (by simp) (by simp; omega) (by simp; omega) c2.1 ((hB0.cell (p := ⟨Pp, 3, none⟩) hPp).trans hp) (hS.below hB0) (ht.below hB0 hs1)) belowK_t (belowK_b (by simp; omega)) (Below.refl _ _) (fun _ => rfl)
    (fun pre W => ((∀ y ∈ pre, fx y = false) ∧ W.cell? ⟨w.heap.size, 0, none⟩ = some (.bool false) ∧ W.frozen? ⟨w.heap.size, 0, none⟩ = false ∧ W.cell? ⟨w.heap.size + 1, 0, none⟩ = some (.bool (!pre.isEmpty)) ∧ W.frozen? ⟨w.heap.size + 1, 0, none⟩ = false) ∧ Below w.heap.size w W)
    (fun c pre W => (c = .ret ∧ (∃ y ∈ pre, fx y = true) ∧ W.cell? ⟨w.heap.size, 0, none⟩ = some (.bool true)) ∧ Below w.heap.size w W)
    (OwnFrom.and (Own.from (fun s A B row hs hg hr => ⟨hs.1, cell_kept hs.2.1 hg hr, (frozen_kept hs.2.1 hg hr).trans hs.2.2.1, cell_kept hs.2.2.2.1 hg hr, (frozen_kept hs.2.2.2.1 hg hr).trans hs.2.2.2.2⟩) _) (ownFrom_below (Nat.le_refl _) (by simp; omega)))
    (fun c => OwnFrom.and (Own.from (fun s A B row hs hg hr => ⟨hs.1, hs.2.1, cell_kept hs.2.2 hg hr⟩) _) (ownFrom_below (Nat.le_refl _) (by simp; omega)))
    ⟨⟨by simp, old_cell _ (old_cell _ c0.1), old_free _ (old_cell _ c0.1) (old_free _ c0.1 c0.2), old_cell _ c1.1, old_free _ c1.1 c1.2⟩, hB0⟩
    (fun x => { tmps := #[.pointer (some ⟨Pp, 0, none⟩), undef, .pointer (some ⟨w.heap.size, 0, none⟩), .pointer (some ⟨w.heap.size + 1, 0, none⟩), .int .u16 x, .pointer (some ⟨Pp, 0, none⟩), .func (.func 31) #[] #[.pointer (some ⟨w.heap.size + 1 + 1, 0, none⟩)], .int .u16 x, undef, undef, undef, undef, undef, undef, undef], defers := [] }) ?assign ?body ?done ?stop
  case assign =>
    intro l x W K hK
    gi_wp2
    exact hK
  case body =>
    rintro l pre x W ⟨⟨hp, hcr, hfr, hcf, hff⟩, hB⟩ _
    cases hv : fx x with
    | false =>
      obtain ⟨v1, v2, v3⟩ := fx_no hv
      have fin : Hid (KeepsOthers W (W.setCell ⟨w.heap.size + 1, 0, none⟩ (.bool true)) ∧ Below w.heap.size W (W.setCell ⟨w.heap.size + 1, 0, none⟩ (.bool true)) ∧
          (((∀ y ∈ pre ++ [x], fx y = false) ∧ (W.setCell ⟨w.heap.size + 1, 0, none⟩ (.bool true)).cell? ⟨w.heap.size, 0, none⟩ = some (.bool false) ∧ (W.setCell ⟨w.heap.size + 1, 0, none⟩ (.bool true)).frozen? ⟨w.heap.size, 0, none⟩ = false ∧
            (W.setCell ⟨w.heap.size + 1, 0, none⟩ (.bool true)).cell? ⟨w.heap.size + 1, 0, none⟩ = some (.bool (!(pre ++ [x]).isEmpty)) ∧ (W.setCell ⟨w.heap.size + 1, 0, none⟩ (.bool true)).frozen? ⟨w.heap.size + 1, 0, none⟩ = false) ∧ Below w.heap.size w (W.setCell ⟨w.heap.size + 1, 0, none⟩ (.bool true)))) :=
        ⟨KeepsOthers.setCell _ _ _, (Below.refl w.heap.size W).setCell (p := ⟨w.heap.size + 1, 0, none⟩) (by simp) _, ⟨all_snoc hp hv, (World.cell?_setCell_other _ _ _ _ (by simp)).trans hcr, by rw [World.frozen?_setCell]; exact hfr, (World.cell?_setCell_same' _ _ _ (by rw [hcf]; rfl)).trans (by simp), by rw [World.frozen?_setCell]; exact hff⟩, hB.setCell (p := ⟨w.heap.size + 1, 0, none⟩) (by simp) _⟩
      clear hv hp
      gi_wp2
      exact fin
    | true =>
      have fin : Hid (KeepsOthers W (W.setCell ⟨w.heap.size, 0, none⟩ (.bool true)) ∧ (((∃ y ∈ pre ++ [x], fx y = true) ∧ (W.setCell ⟨w.heap.size, 0, none⟩ (.bool true)).cell? ⟨w.heap.size, 0, none⟩ = some (.bool true)) ∧ Below w.heap.size w (W.setCell ⟨w.heap.size, 0, none⟩ (.bool true)))) :=
        ⟨KeepsOthers.setCell _ _ _, ⟨⟨x, by simp, hv⟩, World.cell?_setCell_same' _ _ _ (by rw [hcr]; rfl)⟩, hB.setCell (p := ⟨w.heap.size, 0, none⟩) (Nat.le_refl _) _⟩
      clear hp
      rcases fx_yes hv with rfl | rfl | rfl
      all_goals
        clear hv
        gi_wp2
        exact ⟨fin.out.1, ⟨rfl, fin.out.2.1⟩, fin.out.2.2⟩
  case done =>
    rintro D ys W hD rfl ⟨⟨hne, hcr, hfr, hcf, hff⟩, hB⟩ hK
    gi_wp2
    have hK' := (KeepsOthers.setCell W ⟨w.heap.size, 0, none⟩ (.bool ((tts cs).isEmpty))).same D _ hK rfl
    refine ⟨by simp, .inl ⟨_, _, rfl, run_takeDeferred hK', ?_⟩⟩
    have hc5 := cell_kept (World.cell?_setCell_same' W ⟨w.heap.size, 0, none⟩ (.bool ((tts cs).isEmpty)) (by rw [hcr]; rfl)) (grownBy_putObj' _ D (.deferred none)) (fun r e => by cases e; exact ⟨_, hK', rfl⟩)
    refine ⟨.bool ((tts cs).isEmpty), ?_, by rw [← fsh_none hne]; simp, (hB.setCell (p := ⟨w.heap.size, 0, none⟩) (Nat.le_refl _) _).trans (belowK_b (w := w) (Nat.le_refl _) _ D _ _ (by simp at hD; omega) hK' rfl rfl)⟩
    simp [results, Tryd.f30, go_sem, hc5]
  case stop =>
    rintro D c pre W hD hpre ⟨⟨rfl, hin, hcr⟩, hB⟩ hK
    gi_wp2
    refine ⟨by simp, .inl ⟨_, _, rfl, run_takeDeferred hK, ?_⟩⟩
    have hc5 := cell_kept hcr (grownBy_putObj' _ D (.deferred none)) (fun r e => by cases e; exact ⟨_, hK, rfl⟩)
    refine ⟨.bool true, ?_, by rw [fsh_stop hpre hin], hB.trans (belowK_b (w := w) (Nat.le_refl _) W D _ _ (by simp at hD; omega) hK rfl rfl)⟩
    simp [results, Tryd.f30, go_sem, hc5]

end Go.Proofs.Qxb6003712aDoor
