/-
  EncapsulationCommunity (with binary.BigEndian.PutUint16), ESImportCommunity (seat b6003712aD).
-/
import Derived.Test.Qxb6003712aDoorRead
import Derived.Laws.CopyOwn
import Derived.Deep.RegionLaw
import Derived.RegionTactic
import Derived.Deep.WholeRow
namespace Go.Proofs.Qxb6003712aDoor
open Go.RowKit
set_option linter.unusedVariables false

set_option maxHeartbeats 1000000 in
/-- binary.BigEndian.PutUint16. -/
theorem put16_any (b o n cap : Nat) (v : Int) (v0 v1 : Value) (h0 : 0 ≤ v) (k0 : v ≤ 65535) (w : World) (hn : 2 ≤ n) (hn' : n ≤ 1048576)
    (c0 : w.cell? ⟨b, o, none⟩ = some v0) (c1 : w.cell? ⟨b, o + 1, none⟩ = some v1) (f0 : w.frozen? ⟨b, o, none⟩ = false) (f1 : w.frozen? ⟨b, o + 1, none⟩ = false) :
    Calls Tryd.prog 28 #[.agg #[], .slice (some ⟨b, o, none⟩) n cap, .int .u16 v] w fun e w' => e = .returned (.tuple #[]) ∧
      w' = ((w.setCell ⟨b, o, none⟩ (.int .u8 (v / 256))).setCell ⟨b, o + 1, none⟩ (.int .u8 (v % 256))).alloc (.cells #[] 82) := by
  have i1 : (1 : Int) < (n : Int) := by omega
  have i0 : (0 : Int) < (n : Int) := by omega
  have hb : b < w.heap.size := World.block_lt_of_cell? _ _ c0
  go_enter Tryd.func28, Tryd.ntmps28
  go_wp2
  go_end0
  exact ⟨rfl, rfl⟩

set_option maxHeartbeats 2000000 in
/-- EncapsulationCommunity. -/
theorem encap_any (v : Int) (h0 : 0 ≤ v) (k0 : v ≤ 65535) (w : World) :
    Calls Tryd.prog 19 #[.int .u16 v] w fun e w' => e = .returned (.agg #[.int .u8 3, .int .u8 12, .int .u8 0, .int .u8 0, .int .u8 0, .int .u8 0, .int .u8 (v / 256), .int .u8 (v % 256)]) ∧ Below w.heap.size w w' := by
  go_enter Tryd.func19, Tryd.ntmps19
  go_wp2_with fail
  go_region_with (go_at_call 28; refine (put16_any _ _ _ _ v (.int .u8 0) (.int .u8 0) h0 k0 _ (by omega) (by omega) (by simp [go_sem]) (by simp [go_sem]) (by simp [go_sem]) (by simp [go_sem])).mono ?_; rintro e w' ⟨rfl, rfl⟩)
  go_wp2
  exact bodyPost_ret (v := .agg #[.int .u8 3, .int .u8 12, .int .u8 0, .int .u8 0, .int .u8 0, .int .u8 0, .int .u8 (v / 256), .int .u8 (v % 256)]) (by simp [results, Tryd.results19, go_sem]) rfl ⟨rfl, ((((Below.refl _ _).alloc (Nat.le_refl _) _).alloc (by simp) _).alloc (by simp; omega) _).drew⟩

/-- 'copy(c[2:], v[:])' in the block that was laid last. -/
theorem copy6 (x0 x1 x2 x3 x4 x5 : Int) (w : World) (o : Obj) :
    (Builtin.copy_ #[84, 84] 3 #[.slice (some ⟨w.heap.size + 1 + 1, 2, none⟩) 6 6, .slice (some ⟨w.heap.size, 0, none⟩) 6 6]).run Tryd.prog
      (((w.alloc (.cells #[.int .u8 x0, .int .u8 x1, .int .u8 x2, .int .u8 x3, .int .u8 x4, .int .u8 x5] 26)).alloc o).alloc (.cells #[.int .u8 6, .int .u8 2, .int .u8 0, .int .u8 0, .int .u8 0, .int .u8 0, .int .u8 0, .int .u8 0] 45)).drew =
    .ok (goInt 6) (((w.alloc (.cells #[.int .u8 x0, .int .u8 x1, .int .u8 x2, .int .u8 x3, .int .u8 x4, .int .u8 x5] 26)).alloc o).alloc (.cells #[.int .u8 6, .int .u8 2, .int .u8 x0, .int .u8 x1, .int .u8 x2, .int .u8 x3, .int .u8 x4, .int .u8 x5] 45)).drew := by
  obtain ⟨A, hA⟩ : ∃ A, A = (w.alloc (.cells #[.int .u8 x0, .int .u8 x1, .int .u8 x2, .int .u8 x3, .int .u8 x4, .int .u8 x5] 26)).alloc o := ⟨_, rfl⟩
  have hs : A.heap.size = w.heap.size + 1 + 1 := by rw [hA]; simp
  have hrow : ∀ j : Nat, A.cell? ⟨w.heap.size, j, none⟩ = (#[.int .u8 x0, .int .u8 x1, .int .u8 x2, .int .u8 x3, .int .u8 x4, .int .u8 x5] : Array Value)[j]? := fun j => by
    rw [hA, ((Below.refl (w.alloc (.cells #[.int .u8 x0, .int .u8 x1, .int .u8 x2, .int .u8 x3, .int .u8 x4, .int .u8 x5] 26)).heap.size _).alloc (Nat.le_refl _) o).cell (p := ⟨w.heap.size, j, none⟩) (by simp)]
    exact cell_of_row _ _ _ _ _ _ (heap_alloc_new w _)
  rw [← hA, ← hs]
  have h := run_copy_row (P := Tryd.prog) (A.alloc (.cells #[.int .u8 6, .int .u8 2, .int .u8 0, .int .u8 0, .int .u8 0, .int .u8 0, .int .u8 0, .int .u8 0] 45)).drew 84 84 3 5 A.heap.size 2 6 6 ⟨w.heap.size, 0, none⟩ 6 6 #[.int .u8 6, .int .u8 2, .int .u8 0, .int .u8 0, .int .u8 0, .int .u8 0, .int .u8 0, .int .u8 0] 45 [.int .u8 x0, .int .u8 x1, .int .u8 x2, .int .u8 x3, .int .u8 x4, .int .u8 x5] Tryd.underlying84 (by kernel_rfl)
    (heap_alloc_new A _) rfl (fun j v hj => by
      have hlt : j < 6 := (List.getElem?_eq_some_iff.1 hj).1
      have hc : A.cell? ⟨w.heap.size, j, none⟩ = some v := by rw [hrow j]; simpa using hj
      have e : (Addr.add ⟨w.heap.size, 0, none⟩ j : Addr) = ⟨w.heap.size, j, none⟩ := by rw [Go.WideShapes.add_plain, Nat.zero_add]
      rw [e]
      exact old_cell _ hc) (by simp) (by intro v hv; simp at hv; rcases hv with rfl | rfl | rfl | rfl | rfl | rfl <;> rfl)
  rw [h]
  show Result.ok _ (World.drew ((A.alloc _).setRow A.heap.size _)) = _
  rw [World.setRow_alloc_new]
  rfl

set_option maxHeartbeats 2000000 in
/-- ESImportCommunity. -/
theorem esimport_any (x0 x1 x2 x3 x4 x5 : Int) (w : World) :
    Calls Tryd.prog 20 #[.agg #[.int .u8 x0, .int .u8 x1, .int .u8 x2, .int .u8 x3, .int .u8 x4, .int .u8 x5]] w fun e w' => e = .returned (.agg #[.int .u8 6, .int .u8 2, .int .u8 x0, .int .u8 x1, .int .u8 x2, .int .u8 x3, .int .u8 x4, .int .u8 x5]) ∧ Below w.heap.size w w' := by
  have hcp := copy6 x0 x1 x2 x3 x4 x5 w
  go_enter Tryd.func20, Tryd.ntmps20
  go_wp2_with fail
  go_region
  all_goals
    go_wp2
    exact bodyPost_ret (v := .agg #[.int .u8 6, .int .u8 2, .int .u8 x0, .int .u8 x1, .int .u8 x2, .int .u8 x3, .int .u8 x4, .int .u8 x5]) (by simp [results, Tryd.results20, go_sem]) rfl ⟨rfl, ((((Below.refl _ _).alloc (Nat.le_refl _) _).alloc (by simp) _).alloc (by simp; omega) _).drew⟩

end Go.Proofs.Qxb6003712aDoor
