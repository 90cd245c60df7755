/-
  c3wKindModel, ZZkind (seat b6003712aD): the same table.
-/
import Derived.Test.Qxb6003712aDoorVni
namespace Go.Proofs.Qxb6003712aDoor
open Go.RowKit
set_option linter.unusedVariables false

theorem six_ways (a1 : Int) (h : 0 ≤ a1) (h5 : a1 < 5) : a1 = 0 ∨ a1 = 1 ∨ a1 = 2 ∨ a1 = 3 ∨ a1 = 4 := by omega
theorem six_none (a1 : Int) (h5 : decide (a1 < 5) = false) : (a1 == 0) = false ∧ (a1 == 1) = false ∧ (a1 == 2) = false ∧ (a1 == 3) = false ∧ (a1 == 4) = false := by
  simp at h5; simp; omega

set_option maxHeartbeats 2000000 in
/-- c3wKindModel. -/
theorem model_any (a0 a1 a2 a3 a4 a5 a6 a7 : Int) (h1 : 0 ≤ a1) (w : World) :
    Calls Tryd.prog 6 #[.agg #[.int .u8 a0, .int .u8 a1, .int .u8 a2, .int .u8 a3, .int .u8 a4, .int .u8 a5, .int .u8 a6, .int .u8 a7]] w fun e w' =>
      e = .returned (.int .u8 (Pl.kindI a0 a1)) ∧ w' = w.alloc (.cells #[.int .u8 a0, .int .u8 a1, .int .u8 a2, .int .u8 a3, .int .u8 a4, .int .u8 a5, .int .u8 a6, .int .u8 a7] 45) := by
  rcases Pl.kind_ways a0 a1 with ⟨⟨c1, c2, c3⟩, d1, e⟩ | ⟨⟨c1, c2, c3⟩, d1, e⟩ | ⟨⟨c1, c2, c3⟩, d1, e⟩ | ⟨⟨c1, c2, c3⟩, ⟨d1, d2⟩, e⟩ | ⟨⟨c1, c2, c3⟩, ⟨d1, d2⟩, e⟩ | ⟨⟨c1, c2, c3⟩, ⟨d1, d2⟩, e⟩ | ⟨⟨c1, c2, c3⟩, d1, e⟩ | ⟨⟨c1, c2, c3⟩, e⟩
  case inr.inr.inr.inr.inr.inl =>
    rcases six_ways a1 h1 d1 with rfl | rfl | rfl | rfl | rfl
    all_goals
      have E : Hid _ := e
      clear e d1 d2
      go_enter Tryd.func6, Tryd.ntmps6
      go_wp2
      go_ret
      exact ⟨ret_int E.out.symm, rfl⟩
  case inr.inr.inr.inr.inr.inr.inl =>
    obtain ⟨e0, e1, e2, e3, e4⟩ := six_none a1 d1
    have E : Hid _ := e
    clear e d1
    go_enter Tryd.func6, Tryd.ntmps6
    go_wp2
    go_ret
    exact ⟨ret_int E.out.symm, rfl⟩
  all_goals
    have E : Hid _ := e
    clear e
    go_enter Tryd.func6, Tryd.ntmps6
    go_wp2
    go_ret
    exact ⟨ret_int E.out.symm, rfl⟩

set_option maxHeartbeats 1000000 in
/-- ZZkind. -/
theorem zzkind_any (a0 a1 a2 a3 a4 a5 a6 a7 : Int) (h0 : 0 ≤ a0) (k0 : a0 ≤ 255) (h1 : 0 ≤ a1) (k1 : a1 ≤ 255) (w : World) (hs : 1 < w.heap.size) (ht : Tab w) :
    Calls Tryd.prog 7 #[.agg #[.int .u8 a0, .int .u8 a1, .int .u8 a2, .int .u8 a3, .int .u8 a4, .int .u8 a5, .int .u8 a6, .int .u8 a7]] w fun e w' =>
      e = .returned (.int .u8 (Pl.kindI a0 a1)) ∧ Below w.heap.size w w' := by
  have HT : ∀ o, Hid (Tab (w.alloc o)) := fun o => ht.below ((Below.refl w.heap.size w).alloc (Nat.le_refl _) o) hs
  go_enter Tryd.func7, Tryd.ntmps7
  go_wp2_with (go_at_call 23; refine (kind_any a0 a1 a2 a3 a4 a5 a6 a7 h0 k0 h1 k1 _ (by simp; omega) (by exact HT _)).mono ?_; rintro e w' ⟨rfl, rfl⟩)
  go_ret
  exact ⟨rfl, ((Below.refl _ _).alloc (Nat.le_refl _) _).alloc (by simp) _⟩

end Go.Proofs.Qxb6003712aDoor
