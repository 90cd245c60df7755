/-
  THE WALK OF THE LAW PropCommunityKindTableAndFirstOfKindReaders (seat b6003712aD): every slice; the MAC that came in, opened.
-/
import Derived.Test.Qxb6003712aDoorComm
import Derived.Test.Qxb6003712aDoorOpen
namespace Go.Proofs.Qxb6003712aDoor
open Go.ChangeShapes Go.WideShapes Go.ChangeAt Go.RowKit
set_option linter.unusedVariables false
set_option maxRecDepth 100000

set_option maxHeartbeats 1000000 in
set_option maxRecDepth 100000 in
/-- Where the law does not look. -/
theorem comm_big (a : Option Addr) (n cap : Nat) (t v0 v1 v2 v3 v4 v5 : Int) (w : World) (hn : 1048576 < n) (hm : n ≤ 9223372036854775807) :
    Calls Tryd.prog 3 #[.slice a n cap, .int .u16 t, .agg #[.int .u8 v0, .int .u8 v1, .int .u8 v2, .int .u8 v3, .int .u8 v4, .int .u8 v5]] w fun e w' => e = .returned (.bool true) ∧ Below w.heap.size w w' := by
  go_enter Tryd.func3, Tryd.ntmps3
  go_wp2_with fail
  go_ret
  exact ⟨rfl, (Below.refl _ _).alloc (Nat.le_refl _) _⟩

/-- THE LAW. -/
theorem comm_any (a : Option Addr) (n cap : Nat) (cs : List Pl.Com) (t v0 v1 v2 v3 v4 v5 : Int) (w : World) (hs1 : 1 < w.heap.size) (hT : Tab w) (h : IsComs w a n cap cs) (ht : 0 ≤ t ∧ t ≤ 65535) (hv : (0 ≤ v0 ∧ v0 ≤ 255) ∧ (0 ≤ v1 ∧ v1 ≤ 255) ∧ (0 ≤ v2 ∧ v2 ≤ 255) ∧ (0 ≤ v3 ∧ v3 ≤ 255) ∧ (0 ≤ v4 ∧ v4 ≤ 255) ∧ (0 ≤ v5 ∧ v5 ≤ 255)) :
    Calls Tryd.prog 3 #[.slice a n cap, .int .u16 t, .agg #[.int .u8 v0, .int .u8 v1, .int .u8 v2, .int .u8 v3, .int .u8 v4, .int .u8 v5]] w fun e w' => e = .returned (.bool true) ∧ Below w.heap.size w w' := by
  obtain ⟨hl, hok, hm, h⟩ := h
  unfold maxLen at hm
  by_cases hbig : 1048576 < n
  · exact comm_big a n cap t v0 v1 v2 v3 v4 v5 w hbig hm
  · refine comm_gen a n cap cs t v0 v1 v2 v3 v4 v5 w (by omega) ht.1 ht.2 hv hs1 hl hok (fun hp => ?_) (fun hn => ?_) hT
    · rcases h with ⟨rfl, rfl, rfl⟩ | ⟨x, rfl, rfl⟩ | ⟨b, off, rfl, hc⟩
      · omega
      · omega
      · exact ⟨b, off, rfl, hc⟩
    · rcases h with ⟨_, _, e⟩ | ⟨x, rfl, _⟩ | ⟨b, off, rfl, _⟩
      · exact e
      · cases hn
      · cases hn

theorem Tryd.cells26 : Tryd.prog.cellsOf 26 = 6 := by kernel_rfl

/-- An array by value is a row of cells. -/
theorem agg26 {W : World} {r : Reach} {base : Nat} {v : Value} (h : Value.okWide Tryd.prog W r base 26 v) : ∃ cs, v = .agg cs := by
  unfold Value.okWide at h
  simp only [Tryd.underlying26] at h
  obtain ⟨cs, e, _⟩ := h
  exact ⟨cs, e⟩

/-- Six cells that read as an array of octets. -/
theorem mac_of_trod {H : Type} {enc : TypeId × Value → H} {W : World} {n : Nat} {cs' : List Value} {x : DataW H × List MemPlace} (h : DataW.trod enc Tryd.prog W 0 (fun _ => true) true n 26 cs' = some x) :
    ∃ v0 v1 v2 v3 v4 v5 : Int, ((0 ≤ v0 ∧ v0 ≤ 255) ∧ (0 ≤ v1 ∧ v1 ≤ 255) ∧ (0 ≤ v2 ∧ v2 ≤ 255) ∧ (0 ≤ v3 ∧ v3 ≤ 255) ∧ (0 ≤ v4 ∧ v4 ≤ 255) ∧ (0 ≤ v5 ∧ v5 ≤ 255)) ∧ cs' = [.int .u8 v0, .int .u8 v1, .int .u8 v2, .int .u8 v3, .int .u8 v4, .int .u8 v5] := by
  obtain ⟨xs, m, rfl, rfl, hl, hn, hel⟩ := DataW.trod_array Tryd.underlying26 h
  rw [Tryd.cells26] at hl
  have get : ∀ i, i < 6 → ∃ z : Int, (0 ≤ z ∧ z ≤ 255) ∧ cs'[i]? = some (.int .u8 z) := fun i hi => by
    have h1 := hel i hi
    rw [Tryd.cells5, Nat.mul_one] at h1
    obtain ⟨y, hy⟩ : ∃ y, xs[i]? = some y := ⟨xs[i]'(by omega), by simp⟩
    rw [hy] at h1
    obtain ⟨z, e1, _, hw⟩ := DataW.trod_int Tryd.underlying5 h1
    refine ⟨z, wf_u8 hw, ?_⟩
    have := congrArg (·[0]?) e1
    simpa [List.getElem?_take, List.getElem?_drop] using this
  obtain ⟨z0, b0, e0⟩ := get 0 (by omega)
  obtain ⟨z1, b1, e1⟩ := get 1 (by omega)
  obtain ⟨z2, b2, e2⟩ := get 2 (by omega)
  obtain ⟨z3, b3, e3⟩ := get 3 (by omega)
  obtain ⟨z4, b4, e4⟩ := get 4 (by omega)
  obtain ⟨z5, b5, e5⟩ := get 5 (by omega)
  refine ⟨z0, z1, z2, z3, z4, z5, ⟨b0, b1, b2, b3, b4, b5⟩, ?_⟩
  apply List.ext_getElem?
  intro i
  have hi : i = 0 ∨ i = 1 ∨ i = 2 ∨ i = 3 ∨ i = 4 ∨ i = 5 ∨ 6 ≤ i := by omega
  rcases hi with rfl | rfl | rfl | rfl | rfl | rfl | hi
  · exact e0
  · exact e1
  · exact e2
  · exact e3
  · exact e4
  · exact e5
  · rw [List.getElem?_eq_none (by omega), List.getElem?_eq_none (show 6 ≤ i from hi)]

end Go.Proofs.Qxb6003712aDoor
