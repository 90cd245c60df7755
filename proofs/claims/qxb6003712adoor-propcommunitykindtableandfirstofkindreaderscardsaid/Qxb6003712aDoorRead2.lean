/-
  THE READERS (seat b6003712aD): MACMobility, ESILabel, ESImport, RouterMAC, Layer2, DefaultGateway.
-/
import Derived.Test.Qxb6003712aDoorRead
namespace Go.Proofs.Qxb6003712aDoor
open Go.RowKit
set_option linter.unusedVariables false

/-- A block that the call laid, behind a call that makes memory and turns nothing. -/
theorem keep_block {w W1 : World} {cs : Array Value} {t : TypeId} (hb : Below (w.alloc (.cells cs t)).heap.size (w.alloc (.cells cs t)) W1) :
    (∀ j, W1.cell? ⟨w.heap.size, j, none⟩ = cs[j]?) ∧ (∀ j, W1.frozen? ⟨w.heap.size, j, none⟩ = false) ∧ w.heap.size < W1.heap.size ∧ Below w.heap.size w W1 := by
  have hg := heap_alloc_new w (.cells cs t)
  refine ⟨fun j => ?_, fun j => ?_, ?_, ((Below.refl _ _).alloc (Nat.le_refl _) _).trans (hb.mono (by simp))⟩
  · rw [hb.cell (p := ⟨w.heap.size, j, none⟩) (by simp), cell_of_row _ _ _ _ _ _ hg]
  · rw [hb.frozen (p := ⟨w.heap.size, j, none⟩) (by simp), frozen_of_row _ _ _ _ _ hg]
  · have := hb.size; simp at this; omega

set_option maxHeartbeats 4000000 in
/-- MACMobility. -/
theorem mac_ready {w : World} {P : Nat} {sv : Value} {cs : List Pl.Com} (h : Ready w P sv cs) (c : Pl.Com) (bb : Bool) (hm : Hid (cs.length ≤ 1048576)) (HO : Hid (∀ d ∈ cs, d.ok)) (HF : Hid (Fst cs 4 c bb)) :
    Calls Tryd.prog 12 #[.pointer (some ⟨P, 0, none⟩)] w fun e w' => e = .returned (.tuple #[.agg #[.bool (bits .and .u8 c.a2 1 != 0), .int .u32 (n32 c.a4 c.a5 c.a6 c.a7)], .bool bb]) ∧ Below w.heap.size w w' := by
  obtain ⟨⟨h0, k0⟩, ⟨h1, k1⟩, ⟨h2, k2⟩, ⟨h3, k3⟩, ⟨h4, k4⟩, ⟨h5, k5⟩, ⟨h6, k6⟩, ⟨h7, k7⟩⟩ := fst_ok HF.out HO.out
  have HR0 : ∀ o, Hid (Ready (w.alloc o) P sv cs) := fun o => h.later ((Below.refl _ _).alloc (Nat.le_refl _) _)
  clear h
  go_enter Tryd.func12, Tryd.ntmps12
  go_wp2_with fail
  refine (firstA_ready (HR0 _).out 4 c bb hm HO HF).mono ?_
  rintro e W1 ⟨rfl, hb1⟩
  obtain ⟨kc, kf, hR, hB⟩ := keep_block hb1
  have r0 := kc 0
  have f0 := kf 0
  have r1 := kc 1
  have f1 := kf 1
  have HB : Hid (Below w.heap.size w W1) := hB
  simp at r0 r1
  clear kc kf hB hb1 HR0 HF
  have y0 : ∀ o1 o2 q, (((W1.alloc o1).alloc o2).drewN q).cell? ⟨w.heap.size, 0, none⟩ = some (.bool false) := fun o1 o2 q => old_cell o2 (old_cell o1 r0)
  have y1 : ∀ o1 o2 q, (((W1.alloc o1).alloc o2).drewN q).cell? ⟨w.heap.size, 1, none⟩ = some (.int .u32 0) := fun o1 o2 q => old_cell o2 (old_cell o1 r1)
  have HBE : ∀ o1 o2 q v0 v1, Hid (Below w.heap.size w (((((W1.alloc o1).alloc o2).drewN q).setCell ⟨w.heap.size, 0, none⟩ v0).setCell ⟨w.heap.size, 1, none⟩ v1)) := fun o1 o2 q v0 v1 =>
    ((below_drewN ((HB.out.alloc HB.out.size o1).alloc (by have := HB.out.size; simp; omega) o2) q).setCell (p := ⟨w.heap.size, 0, none⟩) (Nat.le_refl _) v0).setCell (p := ⟨w.heap.size, 1, none⟩) (Nat.le_refl _) v1
  go_wp2_with fail
  go_region_with (go_at_call 26; refine (uint32_any _ _ _ _ c.a4 c.a5 c.a6 c.a7 h4 k4 h5 k5 h6 k6 h7 k7 _ (by omega) (by omega) (by simp [go_sem]) (by simp [go_sem]) (by simp [go_sem]) (by simp [go_sem])).mono ?_; rintro e w' ⟨rfl, q, rfl⟩)
  all_goals
    go_wp2
    exact bodyPost_ret (v := .tuple #[.agg #[.bool (bits .and .u8 c.a2 1 != 0), .int .u32 (n32 c.a4 c.a5 c.a6 c.a7)], .bool bb]) (by simp [results, Tryd.results12, go_sem, y0, y1]) rfl ⟨rfl, HBE _ _ _ _ _⟩

set_option maxHeartbeats 4000000 in
/-- ESILabel. -/
theorem esi_ready {w : World} {P : Nat} {sv : Value} {cs : List Pl.Com} (h : Ready w P sv cs) (c : Pl.Com) (bb : Bool) (hm : Hid (cs.length ≤ 1048576)) (HO : Hid (∀ d ∈ cs, d.ok)) (HF : Hid (Fst cs 5 c bb)) :
    Calls Tryd.prog 14 #[.pointer (some ⟨P, 0, none⟩)] w fun e w' => e = .returned (.tuple #[.agg #[.int .u8 (bits .and .u8 c.a2 3), .int .u8 (c.a2 / 64), .int .u32 (lab c.a5 c.a6 c.a7)], .bool bb]) ∧ Below w.heap.size w w' := by
  obtain ⟨⟨h0, k0⟩, ⟨h1, k1⟩, ⟨h2, k2⟩, ⟨h3, k3⟩, ⟨h4, k4⟩, ⟨h5, k5⟩, ⟨h6, k6⟩, ⟨h7, k7⟩⟩ := fst_ok HF.out HO.out
  have HR0 : ∀ o, Hid (Ready (w.alloc o) P sv cs) := fun o => h.later ((Below.refl _ _).alloc (Nat.le_refl _) _)
  clear h
  go_enter Tryd.func14, Tryd.ntmps14
  go_wp2_with fail
  refine (firstA_ready (HR0 _).out 5 c bb hm HO HF).mono ?_
  rintro e W1 ⟨rfl, hb1⟩
  obtain ⟨kc, kf, hR, hB⟩ := keep_block hb1
  have r0 := kc 0
  have f0 := kf 0
  have r1 := kc 1
  have f1 := kf 1
  have r2 := kc 2
  have f2 := kf 2
  have HB : Hid (Below w.heap.size w W1) := hB
  simp at r0 r1 r2
  clear kc kf hB hb1 HR0 HF
  have y0 : ∀ o1 q, ((W1.alloc o1).drewN q).cell? ⟨w.heap.size, 0, none⟩ = some (.int .u8 0) := fun o1 q => old_cell o1 r0
  have y1 : ∀ o1 q, ((W1.alloc o1).drewN q).cell? ⟨w.heap.size, 1, none⟩ = some (.int .u8 0) := fun o1 q => old_cell o1 r1
  have y2 : ∀ o1 q, ((W1.alloc o1).drewN q).cell? ⟨w.heap.size, 2, none⟩ = some (.int .u32 0) := fun o1 q => old_cell o1 r2
  have HBE : ∀ o1 q v0 v1 v2, Hid (Below w.heap.size w (((((W1.alloc o1).drewN q).setCell ⟨w.heap.size, 0, none⟩ v0).setCell ⟨w.heap.size, 1, none⟩ v1).setCell ⟨w.heap.size, 2, none⟩ v2)) := fun o1 q v0 v1 v2 =>
    (((below_drewN (HB.out.alloc HB.out.size o1) q).setCell (p := ⟨w.heap.size, 0, none⟩) (Nat.le_refl _) v0).setCell (p := ⟨w.heap.size, 1, none⟩) (Nat.le_refl _) v1).setCell (p := ⟨w.heap.size, 2, none⟩) (Nat.le_refl _) v2
  go_wp2_with fail
  go_region_with (go_at_call 27; refine (label_any _ _ _ _ c.a5 c.a6 c.a7 h5 k5 h6 k6 h7 k7 _ (by omega) (by omega) (by simp [go_sem]) (by simp [go_sem]) (by simp [go_sem])).mono ?_; rintro e w' ⟨rfl, q, rfl⟩)
  all_goals
    go_wp2
    exact bodyPost_ret (v := .tuple #[.agg #[.int .u8 (bits .and .u8 c.a2 3), .int .u8 (c.a2 / 64), .int .u32 (lab c.a5 c.a6 c.a7)], .bool bb]) (by simp [results, Tryd.results14, go_sem, y0, y1, y2]) rfl ⟨rfl, HBE _ _ _ _ _⟩

end Go.Proofs.Qxb6003712aDoor
