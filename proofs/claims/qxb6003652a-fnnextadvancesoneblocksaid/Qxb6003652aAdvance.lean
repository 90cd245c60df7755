/-
  THE WALK OF THE LAW FnNextAdvancesOneBlock (seat b6003652a).
-/
import Derived.Test.Qxb6003652aOrder
import Derived.Test.Qxb6003652aWalksB
namespace Go.Proofs.Qxb6003652a
open Go.RowKit
set_option linter.unusedVariables false

set_option maxHeartbeats 400000 in
/-- zzNextWant: the same answer, by division. -/
theorem want_any (s i : Int) (h0 : 0 ≤ s) (k0 : s ≤ 281474976710655) (h1 : 0 ≤ i) (k1 : i < 32) (w : World) :
    Calls Try.prog 12 #[.int .u64 s, .int .i64 i] w fun e w' => e = .returned (.tuple #[.int .u64 (nx s i), .bool (nxok s)]) ∧ w' = w := by
  by_cases h : s / 32 = 8796093022207
  · have H : Hid (s / 32 = 8796093022207) := h
    have hb : decide (8796093022207 ≤ s / 32) = true := decide_eq_true (by omega)
    clear h
    go_enter Try.func12, Try.ntmps12
    go_wp2
    go_ret2
    exact ⟨ret_two (nx_top i H.out).symm (nxok_top H.out).symm, rfl⟩
  · have H : Hid (s / 32 ≠ 8796093022207) := h
    have hb : decide (8796093022207 ≤ s / 32) = false := decide_eq_false (by omega)
    clear h
    go_enter Try.func12, Try.ntmps12
    go_wp2
    go_ret2
    exact ⟨ret_two (nx_ok i H.out).symm (nxok_ok H.out).symm, rfl⟩

set_option maxHeartbeats 400000 in
/-- Where the law does not look. -/
theorem adv_idle (s i t : Int) (h0 : 0 ≤ s) (w : World) (h : 281474976710655 < s ∨ i < 0 ∨ 32 ≤ i ∨ t < 0 ∨ 32 ≤ t) :
    Calls Try.prog 6 #[.int .u64 s, .int .i64 i, .int .i64 t] w fun e w' => e = .returned (.bool true) ∧ Grown w w' := by
  by_cases hs : 281474976710655 < s
  · clear h
    go_enter Try.func6, Try.ntmps6
    go_wp2
    go_ret
    exact ⟨rfl, Grown.refl _⟩
  · have a1 : decide (281474976710655 < s) = false := decide_eq_false hs
    by_cases hi : i < 0
    · have b1 : decide (i < 0) = true := decide_eq_true hi
      clear h hi
      go_enter Try.func6, Try.ntmps6
      go_wp2
      go_ret
      exact ⟨rfl, Grown.refl _⟩
    · have b1 : decide (i < 0) = false := decide_eq_false hi
      by_cases hi' : 32 ≤ i
      · have b2 : decide (32 ≤ i) = true := decide_eq_true hi'
        clear h hi hi'
        go_enter Try.func6, Try.ntmps6
        go_wp2
        go_ret
        exact ⟨rfl, Grown.refl _⟩
      · have b2 : decide (32 ≤ i) = false := decide_eq_false hi'
        by_cases hk : t < 0
        · have b3 : decide (t < 0) = true := decide_eq_true hk
          clear h hi hi' hk
          go_enter Try.func6, Try.ntmps6
          go_wp2
          go_ret
          exact ⟨rfl, Grown.refl _⟩
        · have b3 : decide (t < 0) = false := decide_eq_false hk
          have b4 : decide (32 ≤ t) = true := decide_eq_true (by omega)
          clear h hi hi' hk
          go_enter Try.func6, Try.ntmps6
          go_wp2
          go_ret
          exact ⟨rfl, Grown.refl _⟩

set_option maxHeartbeats 1000000 in
/-- Where the law looks. -/
theorem adv_look (s i t : Int) (h0 : 0 ≤ s) (h1 : s ≤ 281474976710655) (i0 : 0 ≤ i) (i1 : i < 32) (t0 : 0 ≤ t) (t1 : t < 32) (w : World) :
    Calls Try.prog 6 #[.int .u64 s, .int .i64 i, .int .i64 t] w fun e w' => e = .returned (.bool true) ∧ Grown w w' := by
  have a1 : decide (281474976710655 < s) = false := decide_eq_false (by omega)
  have b1 : decide (i < 0) = false := decide_eq_false (by omega)
  have b2 : decide (32 ≤ i) = false := decide_eq_false (by omega)
  have b3 : decide (t < 0) = false := decide_eq_false (by omega)
  have b4 : decide (32 ≤ t) = false := decide_eq_false (by omega)
  have hu : (s - s % 32 + t) / 32 = s / 32 := by omega
  by_cases h : s / 32 = 8796093022207
  · have c1 := nxok_top h
    have c2 := nx_top i h
    have c3 := nxok_top (hu.trans h)
    have c4 := nx_top i (hu.trans h)
    clear h hu
    go_enter Try.func6, Try.ntmps6
    go_wp2_with (first
      | (go_at_call 12; refine (want_any s i h0 h1 i0 i1 _).mono ?_; rintro e w' ⟨rfl, rfl⟩)
      | (go_at_call 13; refine (next_any _ _ (by omega) (by omega) (by omega) (by omega) _).mono ?_; rintro e w' ⟨rfl, rfl⟩))
    go_ret
    exact ⟨rfl, Grown.refl _⟩
  · have c1 := nxok_ok h
    have c2 := nx_ok i h
    have c3 := nxok_ok (s := s - s % 32 + t) (by omega)
    have c4 := nx_ok (s := s - s % 32 + t) i (by omega)
    obtain ⟨A, hA⟩ : ∃ A, A = (s / 32 + 1) * 32 + i := ⟨_, rfl⟩
    rw [hu, ← hA] at c4
    rw [← hA] at c2
    have A1 : 0 ≤ A := by omega
    have A2 : A ≤ 281474976710655 := by omega
    have c5 : cmpI A s = 1 := by rw [cmpI, if_neg (by omega), if_pos (by omega)]
    clear h hu hA
    go_enter Try.func6, Try.ntmps6
    go_wp2_with (first
      | (go_at_call 12; refine (want_any s i h0 h1 i0 i1 _).mono ?_; rintro e w' ⟨rfl, rfl⟩)
      | (go_at_call 13; refine (next_any _ _ (by omega) (by omega) (by omega) (by omega) _).mono ?_; rintro e w' ⟨rfl, rfl⟩)
      | (go_at_call_of 9 A; refine (bytes_any A A1 (by omega) _).mono ?_; rintro e w' ⟨rfl, rfl⟩)
      | (go_at_call_of 9 s; refine (bytes_any s h0 (by omega) _).mono ?_; rintro e w' ⟨rfl, rfl⟩)
      | (go_at_call 10; refine (cmp6_six A s A1 A2 h0 h1 _).mono ?_; rintro e w' ⟨rfl, q, rfl⟩))
    go_ret
    exact ⟨by simp, by repeat (first | exact Grown.refl _ | apply Grown.drewN | apply Grown.drew | apply Grown.alloc)⟩

end Go.Proofs.Qxb6003652a
