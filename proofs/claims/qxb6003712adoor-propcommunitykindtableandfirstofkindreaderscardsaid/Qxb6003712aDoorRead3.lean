/-
  THE READERS (seat b6003712aD): ESImport, RouterMAC, Layer2, DefaultGateway.
-/
import Derived.Test.Qxb6003712aDoorRead2
namespace Go.Proofs.Qxb6003712aDoor
open Go.RowKit
set_option linter.unusedVariables false

set_option maxRecDepth 100000 in
set_option maxHeartbeats 4000000 in
/-- ESImport. -/
theorem imp_ready {w : World} {P : Nat} {sv : Value} {cs : List Pl.Com} (h : Ready w P sv cs) (c : Pl.Com) (bb : Bool) (hm : Hid (cs.length ≤ 1048576)) (HO : Hid (∀ d ∈ cs, d.ok)) (HF : Hid (Fst cs 6 c bb)) :
    Calls Tryd.prog 15 #[.pointer (some ⟨P, 0, none⟩)] w fun e w' => e = .returned (.tuple #[.agg #[.int .u8 c.a2, .int .u8 c.a3, .int .u8 c.a4, .int .u8 c.a5, .int .u8 c.a6, .int .u8 c.a7], .bool bb]) ∧ Below w.heap.size w w' := by
  obtain ⟨⟨h0, k0⟩, ⟨h1, k1⟩, ⟨h2, k2⟩, ⟨h3, k3⟩, ⟨h4, k4⟩, ⟨h5, k5⟩, ⟨h6, k6⟩, ⟨h7, k7⟩⟩ := fst_ok HF.out HO.out
  have HR0 : ∀ o, Hid (Ready (w.alloc o) P sv cs) := fun o => h.later ((Below.refl _ _).alloc (Nat.le_refl _) _)
  clear h
  go_enter Tryd.func15, Tryd.ntmps15
  go_wp2_with fail
  refine (firstA_ready (HR0 _).out 6 c bb hm HO HF).mono ?_
  rintro e W1 ⟨rfl, hb1⟩
  obtain ⟨kc, kf, hR, hB⟩ := keep_block hb1
  have r0 := kc 0
  have f0 := kf 0
  have r1 := kc 1
  have f1 := kf 1
  have r2 := kc 2
  have f2 := kf 2
  have r3 := kc 3
  have f3 := kf 3
  have r4 := kc 4
  have f4 := kf 4
  have r5 := kc 5
  have f5 := kf 5
  have HB : Hid (Below w.heap.size w W1) := hB
  simp at r0 r1 r2 r3 r4 r5
  clear kc kf hB hb1 HR0 HF
  have hat : ∀ (a : Option Addr) (len cap : Nat) (W : World), 6 ≤ len → (Instr.arrayAt 26 (.slice a len cap)).run Tryd.prog W = .ok (.pointer a) W := fun a len cap W hl => run_arrayAt W 26 _ 6 a len cap Tryd.underlying26 hl
  go_wp2
  refine bodyPost_ret (v := .tuple #[.agg #[.int .u8 c.a2, .int .u8 c.a3, .int .u8 c.a4, .int .u8 c.a5, .int .u8 c.a6, .int .u8 c.a7], .bool bb]) (by simp [results, Tryd.results15, go_sem, r0, r1, r2, r3, r4, r5, hR]) rfl ⟨rfl, ?_⟩
  have H6 := ((((((HB.out.setCell (p := ⟨w.heap.size, 0, none⟩) (Nat.le_refl _) (.int .u8 c.a2)).setCell (p := ⟨w.heap.size, 1, none⟩) (Nat.le_refl _) (.int .u8 c.a3)).setCell (p := ⟨w.heap.size, 2, none⟩) (Nat.le_refl _) (.int .u8 c.a4)).setCell (p := ⟨w.heap.size, 3, none⟩) (Nat.le_refl _) (.int .u8 c.a5)).setCell (p := ⟨w.heap.size, 4, none⟩) (Nat.le_refl _) (.int .u8 c.a6)).setCell (p := ⟨w.heap.size, 5, none⟩) (Nat.le_refl _) (.int .u8 c.a7))
  exact H6.alloc H6.size _

set_option maxRecDepth 100000 in
set_option maxHeartbeats 4000000 in
/-- RouterMAC. -/
theorem rmac_ready {w : World} {P : Nat} {sv : Value} {cs : List Pl.Com} (h : Ready w P sv cs) (c : Pl.Com) (bb : Bool) (hm : Hid (cs.length ≤ 1048576)) (HO : Hid (∀ d ∈ cs, d.ok)) (HF : Hid (Fst cs 7 c bb)) :
    Calls Tryd.prog 16 #[.pointer (some ⟨P, 0, none⟩)] w fun e w' => e = .returned (.tuple #[.agg #[.int .u8 c.a2, .int .u8 c.a3, .int .u8 c.a4, .int .u8 c.a5, .int .u8 c.a6, .int .u8 c.a7], .bool bb]) ∧ Below w.heap.size w w' := by
  obtain ⟨⟨h0, k0⟩, ⟨h1, k1⟩, ⟨h2, k2⟩, ⟨h3, k3⟩, ⟨h4, k4⟩, ⟨h5, k5⟩, ⟨h6, k6⟩, ⟨h7, k7⟩⟩ := fst_ok HF.out HO.out
  have HR0 : ∀ o, Hid (Ready (w.alloc o) P sv cs) := fun o => h.later ((Below.refl _ _).alloc (Nat.le_refl _) _)
  clear h
  go_enter Tryd.func16, Tryd.ntmps16
  go_wp2_with fail
  refine (firstA_ready (HR0 _).out 7 c bb hm HO HF).mono ?_
  rintro e W1 ⟨rfl, hb1⟩
  obtain ⟨kc, kf, hR, hB⟩ := keep_block hb1
  have r0 := kc 0
  have f0 := kf 0
  have r1 := kc 1
  have f1 := kf 1
  have r2 := kc 2
  have f2 := kf 2
  have r3 := kc 3
  have f3 := kf 3
  have r4 := kc 4
  have f4 := kf 4
  have r5 := kc 5
  have f5 := kf 5
  have HB : Hid (Below w.heap.size w W1) := hB
  simp at r0 r1 r2 r3 r4 r5
  clear kc kf hB hb1 HR0 HF
  have hat : ∀ (a : Option Addr) (len cap : Nat) (W : World), 6 ≤ len → (Instr.arrayAt 26 (.slice a len cap)).run Tryd.prog W = .ok (.pointer a) W := fun a len cap W hl => run_arrayAt W 26 _ 6 a len cap Tryd.underlying26 hl
  go_wp2
  refine bodyPost_ret (v := .tuple #[.agg #[.int .u8 c.a2, .int .u8 c.a3, .int .u8 c.a4, .int .u8 c.a5, .int .u8 c.a6, .int .u8 c.a7], .bool bb]) (by simp [results, Tryd.results16, go_sem, r0, r1, r2, r3, r4, r5, hR]) rfl ⟨rfl, ?_⟩
  have H6 := ((((((HB.out.setCell (p := ⟨w.heap.size, 0, none⟩) (Nat.le_refl _) (.int .u8 c.a2)).setCell (p := ⟨w.heap.size, 1, none⟩) (Nat.le_refl _) (.int .u8 c.a3)).setCell (p := ⟨w.heap.size, 2, none⟩) (Nat.le_refl _) (.int .u8 c.a4)).setCell (p := ⟨w.heap.size, 3, none⟩) (Nat.le_refl _) (.int .u8 c.a5)).setCell (p := ⟨w.heap.size, 4, none⟩) (Nat.le_refl _) (.int .u8 c.a6)).setCell (p := ⟨w.heap.size, 5, none⟩) (Nat.le_refl _) (.int .u8 c.a7))
  exact H6.alloc H6.size _

set_option maxRecDepth 100000 in
set_option maxHeartbeats 4000000 in
/-- Layer2. -/
theorem l2_ready {w : World} {P : Nat} {sv : Value} {cs : List Pl.Com} (h : Ready w P sv cs) (c : Pl.Com) (bb : Bool) (hm : Hid (cs.length ≤ 1048576)) (HO : Hid (∀ d ∈ cs, d.ok)) (HF : Hid (Fst cs 8 c bb)) :
    Calls Tryd.prog 17 #[.pointer (some ⟨P, 0, none⟩)] w fun e w' => e = .returned (.tuple #[.agg #[.int .u16 (c.a2 * 256 + c.a3), .int .u16 (c.a4 * 256 + c.a5)], .bool bb]) ∧ Below w.heap.size w w' := by
  obtain ⟨⟨h0, k0⟩, ⟨h1, k1⟩, ⟨h2, k2⟩, ⟨h3, k3⟩, ⟨h4, k4⟩, ⟨h5, k5⟩, ⟨h6, k6⟩, ⟨h7, k7⟩⟩ := fst_ok HF.out HO.out
  have HR0 : ∀ o, Hid (Ready (w.alloc o) P sv cs) := fun o => h.later ((Below.refl _ _).alloc (Nat.le_refl _) _)
  clear h
  go_enter Tryd.func17, Tryd.ntmps17
  go_wp2_with fail
  refine (firstA_ready (HR0 _).out 8 c bb hm HO HF).mono ?_
  rintro e W1 ⟨rfl, hb1⟩
  obtain ⟨kc, kf, hR, hB⟩ := keep_block hb1
  have r0 := kc 0
  have f0 := kf 0
  have r1 := kc 1
  have f1 := kf 1
  have HB : Hid (Below w.heap.size w W1) := hB
  simp at r0 r1
  clear kc kf hB hb1 HR0 HF
  have y0 : ∀ o1 o2 o3 q q', (((((W1.alloc o1).alloc o2).drewN q).alloc o3).drewN q').cell? ⟨w.heap.size, 0, none⟩ = some (.int .u16 0) := fun o1 o2 o3 q q' => old_cell o3 (old_cell o2 (old_cell o1 r0))
  have g0 : ∀ o1 o2 o3 q q', (((((W1.alloc o1).alloc o2).drewN q).alloc o3).drewN q').frozen? ⟨w.heap.size, 0, none⟩ = false := fun o1 o2 o3 q q' => old_free o3 (old_cell o2 (old_cell o1 r0)) (old_free o2 (old_cell o1 r0) (old_free o1 r0 f0))
  have y1 : ∀ o1 o2 o3 q q', (((((W1.alloc o1).alloc o2).drewN q).alloc o3).drewN q').cell? ⟨w.heap.size, 1, none⟩ = some (.int .u16 0) := fun o1 o2 o3 q q' => old_cell o3 (old_cell o2 (old_cell o1 r1))
  have g1 : ∀ o1 o2 o3 q q', (((((W1.alloc o1).alloc o2).drewN q).alloc o3).drewN q').frozen? ⟨w.heap.size, 1, none⟩ = false := fun o1 o2 o3 q q' => old_free o3 (old_cell o2 (old_cell o1 r1)) (old_free o2 (old_cell o1 r1) (old_free o1 r1 f1))
  have HBE : ∀ o1 o2 o3 q q' v0 v1, Hid (Below w.heap.size w (((((((W1.alloc o1).alloc o2).drewN q).alloc o3).drewN q').setCell ⟨w.heap.size, 0, none⟩ v0).setCell ⟨w.heap.size, 1, none⟩ v1)) := fun o1 o2 o3 q q' v0 v1 =>
    ((below_drewN ((below_drewN ((HB.out.alloc HB.out.size o1).alloc (by have := HB.out.size; simp; omega) o2) q).alloc (by have := HB.out.size; simp; omega) o3) q').setCell (p := ⟨w.heap.size, 0, none⟩) (Nat.le_refl _) v0).setCell (p := ⟨w.heap.size, 1, none⟩) (Nat.le_refl _) v1
  go_wp2_with fail
  go_region_with (first
    | (go_at_call_of 24 (Addr.mk W1.heap.size 2 Option.none); refine (uint16_any _ _ _ _ c.a2 c.a3 h2 k2 h3 k3 _ (by omega) (by omega) (by simp [go_sem]) (by simp [go_sem])).mono ?_; rintro e w' ⟨rfl, q, rfl⟩)
    | (go_at_call_of 24 (Addr.mk W1.heap.size 4 Option.none); refine (uint16_any _ _ _ _ c.a4 c.a5 h4 k4 h5 k5 _ (by omega) (by omega) (by simp [go_sem]) (by simp [go_sem])).mono ?_; rintro e w' ⟨rfl, q', rfl⟩))
  all_goals
    go_wp2
    exact bodyPost_ret (v := .tuple #[.agg #[.int .u16 (c.a2 * 256 + c.a3), .int .u16 (c.a4 * 256 + c.a5)], .bool bb]) (by simp [results, Tryd.results17, go_sem, y0, y1]) rfl ⟨rfl, HBE _ _ _ _ _ _ _⟩

set_option maxHeartbeats 1000000 in
/-- DefaultGateway. -/
theorem gw_ready {w : World} {P : Nat} {sv : Value} {cs : List Pl.Com} (h : Ready w P sv cs) (c : Pl.Com) (bb : Bool) (hm : Hid (cs.length ≤ 1048576)) (HO : Hid (∀ d ∈ cs, d.ok)) (HF : Hid (Fst cs 3 c bb)) :
    Calls Tryd.prog 18 #[.pointer (some ⟨P, 0, none⟩)] w fun e w' => e = .returned (.bool bb) ∧ Below w.heap.size w w' := by
  have HR0 : Hid (Ready w P sv cs) := h
  clear h
  go_enter Tryd.func18, Tryd.ntmps18
  go_wp2_with fail
  refine (firstA_ready HR0.out 3 c bb hm HO HF).mono ?_
  rintro e W1 ⟨rfl, hb1⟩
  have HB : Hid (Below w.heap.size w W1) := hb1
  clear hb1 HR0 HF
  go_wp2
  go_ret
  exact ⟨rfl, HB.out.alloc HB.out.size _⟩

end Go.Proofs.Qxb6003712aDoor
