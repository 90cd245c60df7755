/-
  MEMORY OF SEAT b6003712aD: rows of eight octets; the walk of c3wCloneComms.
-/
import Derived.Test.Qxb6003712aDoorLeaf
import Derived.Laws.IdiomCopy
namespace Go.Proofs.Qxb6003712aDoor
open Go.RowKit
set_option linter.unusedVariables false

/-- Eight cells hold the community c. -/
def At8 (w : World) (b o : Nat) (c : Pl.Com) : Prop :=
  w.cell? ⟨b, o, none⟩ = some (.int .u8 c.a0) ∧ w.cell? ⟨b, o + 1, none⟩ = some (.int .u8 c.a1) ∧ w.cell? ⟨b, o + 2, none⟩ = some (.int .u8 c.a2) ∧ w.cell? ⟨b, o + 3, none⟩ = some (.int .u8 c.a3) ∧
  w.cell? ⟨b, o + 4, none⟩ = some (.int .u8 c.a4) ∧ w.cell? ⟨b, o + 5, none⟩ = some (.int .u8 c.a5) ∧ w.cell? ⟨b, o + 6, none⟩ = some (.int .u8 c.a6) ∧ w.cell? ⟨b, o + 7, none⟩ = some (.int .u8 c.a7)
/-- A row of communities. -/
def Coms (w : World) (b off : Nat) (cs : List Pl.Com) : Prop := ∀ k c, cs[k]? = some c → At8 w b (off + k * 8) c

theorem At8.keep {w w' : World} {b o : Nat} {c : Pl.Com} (h : At8 w b o c) (hk : ∀ j, j < 8 → w'.cell? ⟨b, o + j, none⟩ = w.cell? ⟨b, o + j, none⟩) : At8 w' b o c := by
  obtain ⟨h0, h1, h2, h3, h4, h5, h6, h7⟩ := h
  exact ⟨(hk 0 (by omega)).trans h0, (hk 1 (by omega)).trans h1, (hk 2 (by omega)).trans h2, (hk 3 (by omega)).trans h3, (hk 4 (by omega)).trans h4, (hk 5 (by omega)).trans h5, (hk 6 (by omega)).trans h6, (hk 7 (by omega)).trans h7⟩
theorem At8.lt {w : World} {b o : Nat} {c : Pl.Com} (h : At8 w b o c) : b < w.heap.size := World.block_lt_of_cell? _ _ h.1
theorem Coms.below {w w' : World} {b off B : Nat} {cs : List Pl.Com} (h : Coms w b off cs) (hb : Below B w w') (hB : b < B) : Coms w' b off cs :=
  fun k c hk => (h k c hk).keep fun j _ => hb.cell (p := ⟨b, off + k * 8 + j, none⟩) hB
theorem Coms.later {w w' : World} {b off : Nat} {cs : List Pl.Com} (h : Coms w b off cs) (hb : Below w.heap.size w w') : Coms w' b off cs :=
  fun k c hk => (h k c hk).keep fun j _ => hb.cell (p := ⟨b, off + k * 8 + j, none⟩) (h k c hk).lt

/-- Eight stores. -/
def set8 (w : World) (g o : Nat) (c : Pl.Com) : World :=
  (((((((w.setCell ⟨g, o, none⟩ (.int .u8 c.a0)).setCell ⟨g, o + 1, none⟩ (.int .u8 c.a1)).setCell ⟨g, o + 2, none⟩ (.int .u8 c.a2)).setCell ⟨g, o + 3, none⟩ (.int .u8 c.a3)).setCell ⟨g, o + 4, none⟩ (.int .u8 c.a4)).setCell ⟨g, o + 5, none⟩ (.int .u8 c.a5)).setCell ⟨g, o + 6, none⟩ (.int .u8 c.a6)).setCell ⟨g, o + 7, none⟩ (.int .u8 c.a7)

theorem set8_frozen (w : World) (g o : Nat) (c : Pl.Com) (a : Addr) : (set8 w g o c).frozen? a = w.frozen? a := by
  unfold set8; simp only [World.frozen?_setCell]
theorem set8_below {B : Nat} {w0 w : World} (h : Below B w0 w) (g o : Nat) (c : Pl.Com) (hg : B ≤ g) : Below B w0 (set8 w g o c) := by
  unfold set8
  exact (((((((h.setCell (p := ⟨g, o, none⟩) hg _).setCell (p := ⟨g, o + 1, none⟩) hg _).setCell (p := ⟨g, o + 2, none⟩) hg _).setCell (p := ⟨g, o + 3, none⟩) hg _).setCell (p := ⟨g, o + 4, none⟩) hg _).setCell (p := ⟨g, o + 5, none⟩) hg _).setCell (p := ⟨g, o + 6, none⟩) hg _).setCell (p := ⟨g, o + 7, none⟩) hg _

def Com8 (c : Pl.Com) : List Value := [.int .u8 c.a0, .int .u8 c.a1, .int .u8 c.a2, .int .u8 c.a3, .int .u8 c.a4, .int .u8 c.a5, .int .u8 c.a6, .int .u8 c.a7]
theorem set8_cells (w : World) (g o : Nat) (c : Pl.Com) : set8 w g o c = w.setCells g o (Com8 c) := rfl

theorem set8_other (w : World) (g o : Nat) (c : Pl.Com) (b q : Nat) (h : b ≠ g ∨ q < o ∨ o + 8 ≤ q) : (set8 w g o c).cell? ⟨b, q, none⟩ = w.cell? ⟨b, q, none⟩ := by
  rw [set8_cells]
  refine World.cell?_setCells_out g _ o w _ ?_
  intro hb _
  have e : (Com8 c).length = 8 := rfl
  rw [e]
  rcases h with h | h | h
  · exact absurd hb h
  · exact .inl h
  · exact .inr h
theorem set8_at (w : World) (g o : Nat) (c : Pl.Com) (h : ∀ j, j < 8 → ∃ v, w.cell? ⟨g, o + j, none⟩ = some v) : At8 (set8 w g o c) g o c := by
  rw [set8_cells]
  have H := World.cell?_setCells_in g (Com8 c) o w (fun j hj => by obtain ⟨v, hv⟩ := h j hj; rw [hv]; rfl)
  have e : (Com8 c).length = 8 := rfl
  exact ⟨H 0 (by rw [e]; decide), H 1 (by rw [e]; decide), H 2 (by rw [e]; decide), H 3 (by rw [e]; decide), H 4 (by rw [e]; decide), H 5 (by rw [e]; decide), H 6 (by rw [e]; decide), H 7 (by rw [e]; decide)⟩

/-- A block of the call's own: n cells, none frozen. -/
def Mine (w : World) (g n : Nat) : Prop := ∀ o, o < n → (∃ v, w.cell? ⟨g, o, none⟩ = some v) ∧ w.frozen? ⟨g, o, none⟩ = false

theorem Mine.set8 {w : World} {g n o : Nat} (h : Mine w g n) (c : Pl.Com) (ho : o + 8 ≤ n) : Mine (set8 w g o c) g n := fun q hq => by
  refine ⟨?_, by rw [set8_frozen]; exact (h q hq).2⟩
  by_cases hr : q < o ∨ o + 8 ≤ q
  · rw [set8_other w g o c g q (.inr hr)]; exact (h q hq).1
  · obtain ⟨h0, h1, h2, h3, h4, h5, h6, h7⟩ := set8_at w g o c (fun j hj => (h (o + j) (by omega)).1)
    obtain ⟨j, rfl⟩ : ∃ j, q = o + j := ⟨q - o, by omega⟩
    have hj : j < 8 := by omega
    match j, hj with
    | 0, _ => exact ⟨_, h0⟩
    | 1, _ => exact ⟨_, h1⟩
    | 2, _ => exact ⟨_, h2⟩
    | 3, _ => exact ⟨_, h3⟩
    | 4, _ => exact ⟨_, h4⟩
    | 5, _ => exact ⟨_, h5⟩
    | 6, _ => exact ⟨_, h6⟩
    | 7, _ => exact ⟨_, h7⟩

/-- One more community stored behind those that lie. -/
theorem coms_step {w : World} {g n k : Nat} {cs : List Pl.Com} {c : Pl.Com} (h : Coms w g 0 (cs.take k)) (hm : Mine w g (n * 8)) (hc : cs[k]? = some c) (hk : k < n) : Coms (set8 w g (k * 8) c) g 0 (cs.take (k + 1)) := by
  intro i d hi
  rw [List.getElem?_take] at hi
  split at hi
  · by_cases e : i = k
    · subst e
      rw [hc] at hi
      obtain rfl := Option.some.inj hi
      rw [Nat.zero_add]
      exact set8_at w g (i * 8) c (fun j hj => (hm (i * 8 + j) (by omega)).1)
    · have hd := h i d (by rw [List.getElem?_take, if_pos (by omega)]; exact hi)
      exact hd.keep fun j hj => set8_other w g (k * 8) c g _ (.inr (.inl (by omega)))
  · cases hi

theorem mine_made (w : World) (C : Array Value) (t : TypeId) (n : Nat) (h : C.size = n) : Mine (w.alloc (.cells C t)) w.heap.size n := fun o ho => by
  have hg := heap_alloc_new w (.cells C t)
  exact ⟨⟨C[o], by rw [cell_of_row _ _ _ _ _ _ hg]; simp [h, ho]⟩, frozen_of_row _ _ _ _ _ hg⟩

theorem Tryd.info45 : (Tryd.prog.info? 45).map (fun i => (i.size, i.bytes)) = some (8, 8) := by kernel_rfl

set_option maxHeartbeats 400000 in
theorem clone_nil (w : World) : Calls Tryd.prog 5 #[.slice none 0 0] w fun e w' => e = .returned (.slice none 0 0) ∧ w' = w := by
  have hnil := fun (w : World) => Lib.run_eql_slice_nil (P := Tryd.prog) w 22 45 none 0 0 0 0 Tryd.underlying22
  go_enter Tryd.func5, Tryd.ntmps5
  go_wp2
  go_ret
  exact ⟨rfl, rfl⟩

theorem make8 (n : Nat) (hn : n ≤ 1048576) : ∃ C : Array Value, C.size = n * 8 ∧ ∀ w : World, (Instr.makeSlice 22 (.int .i64 n) (.int .i64 n)).run Tryd.prog w = .ok (.slice (some ⟨w.heap.size, 0, none⟩) n n) (w.alloc (.cells C 45)) := by
  obtain ⟨i0, hi, hzz⟩ := Option.map_eq_some_iff.1 Tryd.info45
  obtain ⟨hz1, hz2⟩ := Prod.mk.inj hzz
  have hz : i0.zero.isSome = true := by
    have e : (Tryd.prog.info? 45).map (fun i => i.zero.isSome) = some true := by kernel_rfl
    rw [hi] at e
    simpa using e
  obtain ⟨z, hz0⟩ := Option.isSome_iff_exists.1 hz
  refine ⟨madeCells z.cells (n * 8), size_madeCells _ _, fun w => ?_⟩
  have h := run_make (P := Tryd.prog) w 22 45 i0 z Tryd.underlying22 hi hz0 .i64 .i64 n n (by omega) (by omega) (by rw [hz2]; omega) (by omega)
  rw [hz1] at h
  simpa using h

set_option maxHeartbeats 1000000 in
/-- c3wCloneComms, the slice at a known place. -/
theorem clone_some (b off n cap : Nat) (cs : List Pl.Com) (w : World) (hn : n ≤ 1048576) (HL : Hid (cs.length = n)) (hrow : Hid (Coms w b off cs)) :
    Calls Tryd.prog 5 #[.slice (some ⟨b, off, none⟩) n cap] w fun e w' => e = .returned (.slice (some ⟨w.heap.size, 0, none⟩) n n) ∧ Below w.heap.size w w' ∧ w.heap.size < w'.heap.size ∧ Coms w' w.heap.size 0 cs := by
  have hnil := fun (w : World) => Lib.run_eql_slice_nil (P := Tryd.prog) w 22 45 (some ⟨b, off, none⟩) n cap 0 0 Tryd.underlying22
  obtain ⟨C, hC, hmk⟩ := make8 n hn
  have HM0 : Hid (Mine (w.alloc (.cells C 45)) w.heap.size (n * 8)) := mine_made w C 45 _ hC
  have HB0 : Hid (Below w.heap.size w (w.alloc (.cells C 45))) := (Below.refl _ _).alloc (Nat.le_refl _) _
  clear hC
  go_enter Tryd.func5, Tryd.ntmps5
  go_wp2
  go_loopw [4] (fun i wr => ∃ k : Nat, k ≤ n ∧ i = .int .i64 k ∧ Hid (Coms wr w.heap.size 0 (cs.take k)) ∧ Hid (Mine wr w.heap.size (n * 8)) ∧ Hid (Below w.heap.size w wr) ∧ Hid (w.heap.size < wr.heap.size)) (fun i _ => n - (intOf i).toNat)
  case atStart => exact ⟨0, by omega, rfl, (by intro k c h; simp at h), HM0, HB0, (show _ < _ by simp)⟩
  case round =>
    obtain ⟨k, hk, rfl, HC, HM, HB, HS⟩ := hrel
    by_cases hlt : k < n
    · obtain ⟨c, hc⟩ : ∃ c, cs[k]? = some c := ⟨cs[k]'(by rw [HL.out]; exact hlt), by simp⟩
      obtain ⟨q0, q1, q2, q3, q4, q5, q6, q7⟩ := (hrow.out.later HB.out) k c hc
      have HC' : Hid (Coms (set8 wr w.heap.size (k * 8) c) w.heap.size 0 (cs.take (k + 1))) := coms_step HC.out HM.out hc hlt
      have HM' : Hid (Mine (set8 wr w.heap.size (k * 8) c) w.heap.size (n * 8)) := HM.out.set8 c (by omega)
      have HB' : Hid (Below w.heap.size w (set8 wr w.heap.size (k * 8) c)) := set8_below HB.out _ _ _ (Nat.le_refl _)
      have HS' : Hid (w.heap.size < (set8 wr w.heap.size (k * 8) c).heap.size) := Nat.lt_of_lt_of_le HS.out (set8_below (Below.refl w.heap.size wr) _ _ _ (Nat.le_refl _)).size
      obtain ⟨⟨v0, e0⟩, f0⟩ := HM.out (k * 8 + 0) (by omega)
      obtain ⟨⟨v1, e1⟩, f1⟩ := HM.out (k * 8 + 1) (by omega)
      obtain ⟨⟨v2, e2⟩, f2⟩ := HM.out (k * 8 + 2) (by omega)
      obtain ⟨⟨v3, e3⟩, f3⟩ := HM.out (k * 8 + 3) (by omega)
      obtain ⟨⟨v4, e4⟩, f4⟩ := HM.out (k * 8 + 4) (by omega)
      obtain ⟨⟨v5, e5⟩, f5⟩ := HM.out (k * 8 + 5) (by omega)
      obtain ⟨⟨v6, e6⟩, f6⟩ := HM.out (k * 8 + 6) (by omega)
      obtain ⟨⟨v7, e7⟩, f7⟩ := HM.out (k * 8 + 7) (by omega)
      rw [Nat.add_zero] at e0 f0
      clear hc HC HM HB HS HM0 HB0
      go_wp2
      go_roundw
      case rel => exact ⟨k + 1, by omega, by go_num, HC', HM', HB', HS'⟩
      case measure => simp [intOf]; omega
    · go_wp2
      go_ret
      have e : cs.take k = cs := List.take_of_length_le (by rw [HL.out]; omega)
      have hc := HC.out
      rw [e] at hc
      exact ⟨rfl, HB.out, HS.out, hc⟩

set_option maxHeartbeats 1000000 in
/-- c3wCloneComms, an empty slice that is not nil. -/
theorem clone_zero (x : Addr) (cap : Nat) (w : World) :
    Calls Tryd.prog 5 #[.slice (some x) 0 cap] w fun e w' => e = .returned (.slice (some ⟨w.heap.size, 0, none⟩) 0 0) ∧ Below w.heap.size w w' ∧ w.heap.size < w'.heap.size := by
  have hnil := fun (w : World) => Lib.run_eql_slice_nil (P := Tryd.prog) w 22 45 (some x) 0 cap 0 0 Tryd.underlying22
  obtain ⟨C, hC, hmk0⟩ := make8 0 (by omega)
  have hmk : ∀ w : World, (Instr.makeSlice 22 (.int .i64 0) (.int .i64 0)).run Tryd.prog w = .ok (.slice (some ⟨w.heap.size, 0, none⟩) 0 0) (w.alloc (.cells C 45)) := hmk0
  clear hC hmk0
  go_enter Tryd.func5, Tryd.ntmps5
  go_wp2
  refine wp_loop_rounds 1 ?_
  rw [rounds_succ]
  go_wp2
  go_ret
  exact ⟨rfl, (Below.refl _ _).alloc (Nat.le_refl _) _, by simp⟩

end Go.Proofs.Qxb6003712aDoor
