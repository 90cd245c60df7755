/-
  THE WALKS OF Next (seat b6003652a) AND OF THE LAW FnNextTwiceForgetsFirstIndex.
-/
import Derived.Test.Qxb6003652aWalksA
namespace Go.Proofs.Qxb6003652a
open Go.RowKit
set_option linter.unusedVariables false

/-- What Next hands back: the number, and whether there is one. -/
def nx (s i : Int) : Int := if s / 32 = 8796093022207 then 0 else (s / 32 + 1) * 32 + i
def nxok (s : Int) : Bool := decide (s / 32 ≠ 8796093022207)
theorem nx_top {s : Int} (i : Int) (h : s / 32 = 8796093022207) : nx s i = 0 := by rw [nx, if_pos h]
theorem nx_ok {s : Int} (i : Int) (h : s / 32 ≠ 8796093022207) : nx s i = (s / 32 + 1) * 32 + i := by rw [nx, if_neg h]
theorem nxok_top {s : Int} (h : s / 32 = 8796093022207) : nxok s = false := by simp [nxok, h]
theorem nxok_ok {s : Int} (h : s / 32 ≠ 8796093022207) : nxok s = true := by simp [nxok, h]

theorem ret_two {a b : Int} {p q : Bool} (h : a = b) (h' : p = q) : Ending.returned (.tuple #[.int .u64 a, .bool p]) = .returned (.tuple #[.int .u64 b, .bool q]) := by rw [h, h']

set_option maxHeartbeats 400000 in
/-- (SQN).Next. -/
theorem next_any (s i : Int) (h0 : 0 ≤ s) (k0 : s ≤ 281474976710655) (h1 : 0 ≤ i) (k1 : i < 32) (w : World) :
    Calls Try.prog 13 #[.int .u64 s, .int .i64 i] w fun e w' => e = .returned (.tuple #[.int .u64 (nx s i), .bool (nxok s)]) ∧ w' = w := by
  have d0 : decide (i < 0) = false := decide_eq_false (by omega)
  have d1 : decide (32 ≤ i) = false := decide_eq_false (by omega)
  by_cases h : s / 32 = 8796093022207
  · have H : Hid (s / 32 = 8796093022207) := h
    have hb : (s / 32 == 8796093022207) = true := by simpa using h
    clear h
    go_enter Try.func13, Try.ntmps13
    go_wp2
    go_ret2
    exact ⟨ret_two (nx_top i H.out).symm (nxok_top H.out).symm, rfl⟩
  · have H : Hid (s / 32 ≠ 8796093022207) := h
    have hb : (s / 32 == 8796093022207) = false := by simpa using h
    have eo := Pl.or5 (s / 32 + 1) i (by omega) (by omega) h1 k1
    clear h
    go_enter Try.func13, Try.ntmps13
    go_wp2
    go_ret2
    exact ⟨ret_two (nx_ok i H.out).symm (nxok_ok H.out).symm, rfl⟩

set_option maxHeartbeats 400000 in
/-- FnNextTwiceForgetsFirstIndex, where she does not look. -/
theorem twice_idle (s i k j : Int) (h0 : 0 ≤ s) (w : World) (h : 281474976710655 < s ∨ i < 0 ∨ 32 ≤ i ∨ k < 0 ∨ 32 ≤ k ∨ j < 0 ∨ 32 ≤ j) :
    Calls Try.prog 7 #[.int .u64 s, .int .i64 i, .int .i64 k, .int .i64 j] w fun e w' => e = .returned (.bool true) ∧ w' = w := by
  by_cases hs : 281474976710655 < s
  · clear h
    go_enter Try.func7, Try.ntmps7
    go_wp2
    go_ret
    exact ⟨rfl, rfl⟩
  · have a1 : decide (281474976710655 < s) = false := decide_eq_false hs
    by_cases hi : i < 0
    · have b1 : decide (i < 0) = true := decide_eq_true hi
      clear h hi
      go_enter Try.func7, Try.ntmps7
      go_wp2
      go_ret
      exact ⟨rfl, rfl⟩
    · have b1 : decide (i < 0) = false := decide_eq_false hi
      by_cases hi' : 32 ≤ i
      · have b2 : decide (32 ≤ i) = true := decide_eq_true hi'
        clear h hi hi'
        go_enter Try.func7, Try.ntmps7
        go_wp2
        go_ret
        exact ⟨rfl, rfl⟩
      · have b2 : decide (32 ≤ i) = false := decide_eq_false hi'
        by_cases hk : k < 0
        · have b3 : decide (k < 0) = true := decide_eq_true hk
          clear h hi hi' hk
          go_enter Try.func7, Try.ntmps7
          go_wp2
          go_ret
          exact ⟨rfl, rfl⟩
        · have b3 : decide (k < 0) = false := decide_eq_false hk
          by_cases hk' : 32 ≤ k
          · have b4 : decide (32 ≤ k) = true := decide_eq_true hk'
            clear h hi hi' hk hk'
            go_enter Try.func7, Try.ntmps7
            go_wp2
            go_ret
            exact ⟨rfl, rfl⟩
          · have b4 : decide (32 ≤ k) = false := decide_eq_false hk'
            by_cases hj : j < 0
            · have b5 : decide (j < 0) = true := decide_eq_true hj
              clear h hi hi' hk hk' hj
              go_enter Try.func7, Try.ntmps7
              go_wp2
              go_ret
              exact ⟨rfl, rfl⟩
            · have b5 : decide (j < 0) = false := decide_eq_false hj
              have b6 : decide (32 ≤ j) = true := decide_eq_true (by omega)
              clear h hi hi' hk hk' hj
              go_enter Try.func7, Try.ntmps7
              go_wp2
              go_ret
              exact ⟨rfl, rfl⟩

set_option maxHeartbeats 1000000 in
/-- FnNextTwiceForgetsFirstIndex, where she looks. -/
theorem twice_look (s i k j : Int) (h0 : 0 ≤ s) (h1 : s ≤ 281474976710655) (i0 : 0 ≤ i) (i1 : i < 32) (k0 : 0 ≤ k) (k1 : k < 32) (j0 : 0 ≤ j) (j1 : j < 32) (w : World) :
    Calls Try.prog 7 #[.int .u64 s, .int .i64 i, .int .i64 k, .int .i64 j] w fun e w' => e = .returned (.bool true) ∧ w' = w := by
  have a1 : decide (281474976710655 < s) = false := decide_eq_false (by omega)
  have b1 : decide (i < 0) = false := decide_eq_false (by omega)
  have b2 : decide (32 ≤ i) = false := decide_eq_false (by omega)
  have b3 : decide (k < 0) = false := decide_eq_false (by omega)
  have b4 : decide (32 ≤ k) = false := decide_eq_false (by omega)
  have b5 : decide (j < 0) = false := decide_eq_false (by omega)
  have b6 : decide (32 ≤ j) = false := decide_eq_false (by omega)
  by_cases h : s / 32 = 8796093022207
  · have c1 := nxok_top h
    have c2 := nx_top i h
    have c3 := nx_top k h
    have c4 : decide (8796093022207 ≤ s / 32) = true := decide_eq_true (by omega)
    clear h
    go_enter Try.func7, Try.ntmps7
    go_wp2_with (go_at_call 13; refine (next_any _ _ (by omega) (by omega) (by omega) (by omega) _).mono ?_; rintro e w' ⟨rfl, rfl⟩)
    go_ret
    exact ⟨rfl, rfl⟩
  · have c1 := nxok_ok h
    have c2 := nx_ok i h
    have c3 := nx_ok k h
    have c4 : decide (8796093022207 ≤ s / 32) = false := decide_eq_false (by omega)
    obtain ⟨A, hA⟩ : ∃ A, A = (s / 32 + 1) * 32 + i := ⟨_, rfl⟩
    obtain ⟨B, hB⟩ : ∃ B, B = (s / 32 + 1) * 32 + k := ⟨_, rfl⟩
    rw [← hA] at c2
    rw [← hB] at c3
    have A1 : 0 ≤ A := by omega
    have A2 : A ≤ 281474976710655 := by omega
    have B1 : 0 ≤ B := by omega
    have B2 : B ≤ 281474976710655 := by omega
    have hA' : A / 32 = s / 32 + 1 := by omega
    have hB' : B / 32 = s / 32 + 1 := by omega
    by_cases h2 : s / 32 + 1 = 8796093022207
    · have d1 := nxok_top (hA'.trans h2)
      have d2 := nx_top j (hA'.trans h2)
      have d3 := nxok_top (hB'.trans h2)
      have d4 := nx_top j (hB'.trans h2)
      have d5 : decide (s / 32 + 1 < 8796093022207) = false := decide_eq_false (by omega)
      clear h h2 hA hB hA' hB'
      go_enter Try.func7, Try.ntmps7
      go_wp2_with (go_at_call 13; refine (next_any _ _ (by omega) (by omega) (by omega) (by omega) _).mono ?_; rintro e w' ⟨rfl, rfl⟩)
      go_ret
      exact ⟨rfl, rfl⟩
    · have d1 := nxok_ok (s := A) (by omega)
      have d2 := nx_ok (s := A) j (by omega)
      have d3 := nxok_ok (s := B) (by omega)
      have d4 := nx_ok (s := B) j (by omega)
      rw [show (A / 32 + 1) * 32 + j = (s / 32 + 2) * 32 + j by omega] at d2
      rw [show (B / 32 + 1) * 32 + j = (s / 32 + 2) * 32 + j by omega] at d4
      have d5 : decide (s / 32 + 1 < 8796093022207) = true := decide_eq_true (by omega)
      have d6 : s / 32 + 1 < 8796093022207 := by omega
      clear h h2 hA hB hA' hB'
      go_enter Try.func7, Try.ntmps7
      go_wp2_with (go_at_call 13; refine (next_any _ _ (by omega) (by omega) (by omega) (by omega) _).mono ?_; rintro e w' ⟨rfl, rfl⟩)
      go_ret
      exact ⟨rfl, rfl⟩

end Go.Proofs.Qxb6003652a
