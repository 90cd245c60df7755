/-
  A SLICE OF COMMUNITIES THAT CAME IN, OPENED; the kinds' table off the row's condition (seat b6003712aD).
-/
import Derived.Test.Qxb6003712aDoorVniAll
import Derived.ProofKit
import Derived.OpenShut
import Derived.Deep.Slices
import Derived.LaidMore
import Derived.Lib.LaidTab
import Derived.Stop.Joined
namespace Go.Proofs.Qxb6003712aDoor
open Go.ChangeShapes Go.WideShapes Go.ChangeAt Go.RowKit
set_option linter.unusedVariables false

theorem own : ownKnob Tryd.prog.godebug = none := by kernel_rfl
theorem laidOut : laidOutB Tryd.prog = true := by kernel_rfl
theorem Tryd.cells45 : Tryd.prog.cellsOf 45 = 8 := by kernel_rfl
theorem Tryd.cells5 : Tryd.prog.cellsOf 5 = 1 := by kernel_rfl
theorem Tryd.cells79 : Tryd.prog.cellsOf 79 = 1 := by kernel_rfl
theorem Tryd.cells92 : Tryd.prog.cellsOf 92 = 5 := by kernel_rfl

/-- From 'for every i below n there is a c' to one list. -/
theorem list_of {α : Type} {p : Nat → α → Prop} : ∀ n, (∀ i, i < n → ∃ c, p i c) → ∃ cs : List α, cs.length = n ∧ ∀ i c, cs[i]? = some c → p i c
  | 0, _ => ⟨[], rfl, fun i c h => by simp at h⟩
  | n + 1, h => by
    obtain ⟨cs, hl, hc⟩ := list_of n (fun i hi => h i (by omega))
    obtain ⟨c, hn⟩ := h n (by omega)
    refine ⟨cs ++ [c], by simp [hl], fun i d hd => ?_⟩
    by_cases hi : i < n
    · rw [List.getElem?_append_left (by omega)] at hd
      exact hc i d hd
    · by_cases e : i = n
      · subst e
        rw [List.getElem?_append_right (by omega), hl, Nat.sub_self] at hd
        simp at hd
        subst hd
        exact hn
      · rw [List.getElem?_eq_none (by simp; omega)] at hd
        cases hd

theorem wf_u8 {z : Int} (h : (Lit.int .u8 z).wf = true) : 0 ≤ z ∧ z ≤ 255 := bounds_u8 h

/-- Eight cells that read as an array of octets. -/
theorem com_of_trod {H : Type} {enc : TypeId × Value → H} {W : World} {n : Nat} {cs' : List Value} {x : DataW H × List MemPlace} (h : DataW.trod enc Tryd.prog W 0 (fun _ => true) true n 45 cs' = some x) :
    ∃ c : Pl.Com, c.ok ∧ cs' = Com8 c := by
  obtain ⟨xs, m, rfl, rfl, hl, hn, hel⟩ := DataW.trod_array Tryd.underlying45 h
  rw [Tryd.cells45] at hl
  have get : ∀ i, i < 8 → ∃ z : Int, (0 ≤ z ∧ z ≤ 255) ∧ cs'[i]? = some (.int .u8 z) := fun i hi => by
    have h1 := hel i hi
    rw [Tryd.cells5, Nat.mul_one] at h1
    obtain ⟨y, hy⟩ : ∃ y, xs[i]? = some y := ⟨xs[i]'(by omega), by simp⟩
    rw [hy] at h1
    obtain ⟨z, e1, _, hw⟩ := DataW.trod_int Tryd.underlying5 h1
    refine ⟨z, wf_u8 hw, ?_⟩
    have := congrArg (·[0]?) e1
    simpa [List.getElem?_take, List.getElem?_drop] using this
  obtain ⟨z0, b0, e0⟩ := get 0 (by omega)
  obtain ⟨z1, b1, e1⟩ := get 1 (by omega)
  obtain ⟨z2, b2, e2⟩ := get 2 (by omega)
  obtain ⟨z3, b3, e3⟩ := get 3 (by omega)
  obtain ⟨z4, b4, e4⟩ := get 4 (by omega)
  obtain ⟨z5, b5, e5⟩ := get 5 (by omega)
  obtain ⟨z6, b6, e6⟩ := get 6 (by omega)
  obtain ⟨z7, b7, e7⟩ := get 7 (by omega)
  refine ⟨⟨z0, z1, z2, z3, z4, z5, z6, z7⟩, ⟨b0, b1, b2, b3, b4, b5, b6, b7⟩, ?_⟩
  apply List.ext_getElem?
  intro i
  have hi : i = 0 ∨ i = 1 ∨ i = 2 ∨ i = 3 ∨ i = 4 ∨ i = 5 ∨ i = 6 ∨ i = 7 ∨ 8 ≤ i := by omega
  rcases hi with rfl | rfl | rfl | rfl | rfl | rfl | rfl | rfl | hi
  · exact e0
  · exact e1
  · exact e2
  · exact e3
  · exact e4
  · exact e5
  · exact e6
  · exact e7
  · rw [List.getElem?_eq_none (by omega), List.getElem?_eq_none (show 8 ≤ i from hi)]

/-- THE SLICE OPENED. -/
theorem open_coms {H : Type} {enc : TypeId × Value → H} {W : World} {a : Option Addr} {n cap : Nat} {d : DataW H} {p : List MemPlace} (h : DataW.Trod enc Tryd.prog W 0 (fun _ => true) true 22 (.slice a n cap) d p) :
    ∃ cs, IsComs W a n cap cs := by
  obtain ⟨fuel, hf⟩ := h
  rcases Deep.open_slice Tryd.underlying22 hf with ⟨hcs, _⟩ | ⟨x, len, cap', m, n', D, P', hcs, _, hl, hm, hm', _, hel⟩
  · simp [Value.cells] at hcs
    obtain ⟨rfl, rfl, rfl⟩ := hcs
    exact ⟨[], rfl, (fun c hc => by cases hc), Nat.zero_le _, .inl ⟨rfl, rfl, rfl⟩⟩
  · simp [Value.cells] at hcs
    obtain ⟨rfl, rfl, rfl⟩ := hcs
    rw [if_pos rfl] at hm'
    subst hm'
    obtain ⟨cs, hlen, hc⟩ := list_of (p := fun i (c : Pl.Com) => c.ok ∧ ∀ j, j < 8 → W.cell? (x.add (i * 8 + j)) = (Com8 c)[j]?) n (fun i hi => by
      obtain ⟨cs', hcells, htr⟩ := hel i (by omega)
      obtain ⟨c, hok, rfl⟩ := com_of_trod htr
      rw [Tryd.cells45] at hcells
      refine ⟨c, hok, fun j hj => ?_⟩
      rw [← Deep.add_add]
      exact (World.cells?_some hcells).2.2 j hj)
    refine ⟨cs, hlen, fun c hcm => ?_, Nat.le_trans hl hm, .inr ?_⟩
    · obtain ⟨i, hi⟩ := List.getElem?_of_mem hcm
      exact (hc i c hi).1
    · by_cases h0 : n = 0
      · exact .inl ⟨x, rfl, h0⟩
      · right
        obtain ⟨b, off, spot⟩ := x
        obtain ⟨c0, hc0⟩ : ∃ c, cs[0]? = some c := ⟨cs[0]'(by omega), by simp⟩
        have hspot : spot = none := by simpa [Addr.add] using World.cell?_spot ((hc 0 c0 hc0).2 0 (by omega))
        subst hspot
        refine ⟨b, off, rfl, fun k c hk => ?_⟩
        have H := (hc k c hk).2
        have at' : ∀ j, j < 8 → W.cell? ⟨b, off + k * 8 + j, none⟩ = (Com8 c)[j]? := fun j hj => by
          have := H j hj
          rw [Go.WideShapes.add_plain, ← Nat.add_assoc] at this
          exact this
        exact ⟨at' 0 (by omega), at' 1 (by omega), at' 2 (by omega), at' 3 (by omega), at' 4 (by omega), at' 5 (by omega), at' 6 (by omega), at' 7 (by omega)⟩

end Go.Proofs.Qxb6003712aDoor
