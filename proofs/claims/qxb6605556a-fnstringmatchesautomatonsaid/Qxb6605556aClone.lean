/-
  THE WALK OF cloneBytes (seat b6605556a): nil stays nil; else a new row of the call's own that holds the same bytes.
-/
import Derived.Test.Qxb6605556aEsc
import Derived.Laws.CopyOwn
namespace Go.Proofs.Qxb6605556a
open Go.RowKit

theorem Try.info5 : (Try.prog.info? 5).map (fun i => (i.zero, i.size, i.bytes)) = some (some (.int .u8 0), 1, 1) := by kernel_rfl

set_option maxHeartbeats 400000 in
theorem clone_nil (w : World) :
    Calls Try.prog 7 #[.slice none 0 0] w fun e w' => e = .returned (.slice none 0 0) ∧ w' = w := by
  have hnil := fun (w : World) => Lib.run_eql_slice_nil (P := Try.prog) w 22 5 none 0 0 0 0 Try.underlying22
  go_enter Try.func7, Try.ntmps7
  go_wp2
  go_ret
  exact ⟨rfl, rfl⟩

theorem row_of_heap {w : World} {g : Nat} {L : List Int} {t : TypeId} (h : w.heap[g]? = some (.cells (L.map (Value.int .u8)).toArray t (0, 0))) : Row w g 0 L := by
  intro i hi
  simp [World.cell?, h, hi]

theorem cells_of_row {zs : List Int} {n : Nat} {w w1 : World} {x : Addr} (hrow : ∀ i, i < zs.length → w.cell? (x.add i) = some (.int .u8 (zs.getD i 0))) (hb : Below w.heap.size w w1) :
    ∀ j v, ((zs.take n).map (Value.int .u8))[j]? = some v → w1.cell? (x.add j) = some v := by
  intro j v hj
  simp only [List.getElem?_map, Option.map_eq_some_iff, List.getElem?_take] at hj
  obtain ⟨a, ha, rfl⟩ := hj
  split at ha
  · have hl : j < zs.length := by
      rcases Nat.lt_or_ge j zs.length with h | h
      · exact h
      · rw [List.getElem?_eq_none h] at ha; cases ha
    rw [cell_later hb (hrow j hl)]
    simp [List.getD, ha]
  · cases ha

set_option maxHeartbeats 400000 in
theorem clone_some (x : Addr) (n cap : Nat) (zs : List Int) (w : World) (hn : n ≤ 1048576) (hz : n ≤ zs.length) (hrow : ∀ i, i < zs.length → w.cell? (x.add i) = some (.int .u8 (zs.getD i 0))) :
    Calls Try.prog 7 #[.slice (some x) n cap] w fun e w' => e = .returned (.slice (some ⟨w.heap.size, 0, none⟩) n n) ∧ Below w.heap.size w w' ∧ w.heap.size < w'.heap.size ∧ Row w' w.heap.size 0 (zs.take n) := by
  have hnil := fun (w : World) => Lib.run_eql_slice_nil (P := Try.prog) w 22 5 (some x) n cap 0 0 Try.underlying22
  obtain ⟨i0, hi, hz0, hz1, hz2⟩ := info_parts Try.info5
  obtain ⟨C, hC⟩ : ∃ C, C = madeCells (Value.int .u8 0).cells n := ⟨_, rfl⟩
  have hmk : ∀ w : World, (Instr.makeSlice 22 (.int .i64 n) (.int .i64 n)).run Try.prog w = .ok (.slice (some ⟨w.heap.size, 0, none⟩) n n) (w.alloc (.cells C 5)) := fun w => by
    have h := run_make (P := Try.prog) w 22 5 i0 (.int .u8 0) Try.underlying22 hi hz0 .i64 .i64 n n (by omega) (by omega) (by rw [hz2]; omega) (by omega)
    rw [hz1] at h
    rw [hC]
    simpa using h
  have HC : Hid (C.size = n) := by show C.size = n; rw [hC, size_madeCells]
  clear hi hz0 hz1 hz2 hC
  have HS := cells_of_row (n := n) (w1 := w.alloc (.cells C 5)) hrow ((Below.refl w.heap.size w).alloc (Nat.le_refl _) _)
  obtain ⟨cs, hcs⟩ : ∃ cs, cs = (zs.take n).map (Value.int .u8) := ⟨_, rfl⟩
  have HL : Hid (cs.length = n) := by show _ = _; rw [hcs]; simp; omega
  have H1 : Hid (∀ v ∈ cs, v.oneCell' = true) := by
    show ∀ v ∈ cs, v.oneCell' = true
    rw [hcs]; intro v hv; obtain ⟨a, _, rfl⟩ := List.mem_map.mp hv; rfl
  rw [← hcs] at HS
  have HS' := HS
  have HSS : Hid (∀ j v, cs[j]? = some v → (w.alloc (.cells C 5)).cell? (x.add j) = some v) := HS'
  have HCS : Hid (cs = (zs.take n).map (Value.int .u8)) := hcs
  clear HS HS' hcs hrow
  go_enter Try.func7, Try.ntmps7
  go_wp2_with (refine wpList_copy_splice rfl (.tmp 9) (.tmp 10) 22 22 rfl 5 Try.underlying22 (by kernel_rfl) (some ⟨w.heap.size, 0, none⟩) (some x) n n n cap rfl rfl w.heap.size 0 C.toList 5 ?c1 cs ?c2 ?c3 ?c4 H1.out w.heap.size w ?c5 (Nat.le_refl _) ?_)
  case c1 => rw [Array.toArray_toList]; exact heap_alloc_new _ _
  case c2 => rw [HL.out]; simp
  case c3 => intro _; exact HSS.out
  case c4 => rw [HL.out]; simp [HC.out]
  case c5 => exact (Below.refl _ _).alloc (Nat.le_refl _) _
  · intro w1 hg1 hb1
    go_wp2
    go_ret
    have hg2 := hg1.out
    have hsp : splice C.toList 0 cs = (zs.take n).map (Value.int .u8) := by
      rw [← HCS.out]
      unfold splice
      rw [List.drop_of_length_le (by rw [HL.out]; simp [HC.out])]
      simp
    rw [hsp] at hg2
    refine ⟨rfl, hb1, ?_, row_of_heap hg2⟩
    rcases Nat.lt_or_ge w.heap.size w1.heap.size with h | h
    · exact h
    · rw [Array.getElem?_eq_none h] at hg2; cases hg2

/-- WHAT A LAW IS TOLD OF A SLICE OF INTEGERS THAT CAME IN: it is nil; or it leads to a row of 'cap' cells, the numbers 'zs' (the first 'len' are its elements, the rest its spare room), each fitting its kind. -/
def IsRow (k : IntKind) (w : World) (a : Option Addr) (len cap : Nat) (zs : List Int) : Prop :=
  (a = none ∧ len = 0 ∧ cap = 0 ∧ zs = []) ∨
  ∃ x, a = some x ∧ len ≤ cap ∧ cap ≤ maxLen ∧ zs.length = cap ∧ (∀ i, i < zs.length → w.cell? (x.add i) = some (.int k (zs.getD i 0))) ∧ ∀ n ∈ zs, (Lit.int k n).wf = true

end Go.Proofs.Qxb6605556a
