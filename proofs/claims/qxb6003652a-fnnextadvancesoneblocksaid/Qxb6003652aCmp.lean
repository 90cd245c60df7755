/-
  THE WALK OF zzCmp6_akab1 (seat b6003652a).
-/
import Derived.Test.Qxb6003652aWalksA
import Derived.Deep.QuietTactic
import Derived.BigQuiet
namespace Go.Proofs.Qxb6003652a
open Go.RowKit
set_option linter.unusedVariables false

/-- Lexicographic comparison. -/
def cmpL : List Int → List Int → Int
  | x :: xs, y :: ys => if x < y then -1 else if y < x then 1 else cmpL xs ys
  | _, _ => 0
/-- Comparison of numbers. -/
def cmpI (a b : Int) : Int := if a < b then -1 else if b < a then 1 else 0

theorem cmpI_cons (B x y a b : Int) (a0 : 0 ≤ a) (a1 : a < B) (b0 : 0 ≤ b) (b1 : b < B) : cmpI (x * B + a) (y * B + b) = if x < y then -1 else if y < x then 1 else cmpI a b := by
  by_cases h : x < y
  · have m : (x + 1) * B ≤ y * B := Int.mul_le_mul_of_nonneg_right (by omega) (by omega)
    rw [Int.add_mul] at m
    rw [if_pos h, cmpI, if_pos (by omega)]
  · rw [if_neg h]
    by_cases h' : y < x
    · have m : (y + 1) * B ≤ x * B := Int.mul_le_mul_of_nonneg_right (by omega) (by omega)
      rw [Int.add_mul] at m
      rw [if_pos h', cmpI, if_neg (by omega), if_pos (by omega)]
    · obtain rfl : x = y := by omega
      rw [if_neg h', cmpI, cmpI]
      by_cases c : a < b
      · rw [if_pos c, if_pos (by omega)]
      · rw [if_neg c, if_neg (by omega)]
        by_cases c' : b < a
        · rw [if_pos c', if_pos (by omega)]
        · rw [if_neg c', if_neg (by omega)]

theorem cmpL_val (x0 x1 x2 x3 x4 x5 y0 y1 y2 y3 y4 y5 : Int) (hx0 : 0 ≤ x0) (kx0 : x0 ≤ 255) (hx1 : 0 ≤ x1) (kx1 : x1 ≤ 255) (hx2 : 0 ≤ x2) (kx2 : x2 ≤ 255) (hx3 : 0 ≤ x3) (kx3 : x3 ≤ 255) (hx4 : 0 ≤ x4) (kx4 : x4 ≤ 255) (hx5 : 0 ≤ x5) (kx5 : x5 ≤ 255) (hy0 : 0 ≤ y0) (ky0 : y0 ≤ 255) (hy1 : 0 ≤ y1) (ky1 : y1 ≤ 255) (hy2 : 0 ≤ y2) (ky2 : y2 ≤ 255) (hy3 : 0 ≤ y3) (ky3 : y3 ≤ 255) (hy4 : 0 ≤ y4) (ky4 : y4 ≤ 255) (hy5 : 0 ≤ y5) (ky5 : y5 ≤ 255) :
    cmpL [x0, x1, x2, x3, x4, x5] [y0, y1, y2, y3, y4, y5] = cmpI (val x0 x1 x2 x3 x4 x5) (val y0 y1 y2 y3 y4 y5) := by
  have e : ∀ a b c d e f : Int, val a b c d e f = a * 1099511627776 + (b * 4294967296 + (c * 16777216 + (d * 65536 + (e * 256 + f)))) := fun a b c d e f => by unfold val; omega
  rw [e, e, cmpI_cons _ _ _ _ _ (by omega) (by omega) (by omega) (by omega), cmpI_cons _ _ _ _ _ (by omega) (by omega) (by omega) (by omega), cmpI_cons _ _ _ _ _ (by omega) (by omega) (by omega) (by omega), cmpI_cons _ _ _ _ _ (by omega) (by omega) (by omega) (by omega), cmpI_cons _ _ _ _ _ (by omega) (by omega) (by omega) (by omega)]
  rfl

theorem drop6 (L : List Int) (k : Nat) (h : k < L.length) : L.drop k = L.getD k 0 :: L.drop (k + 1) := by
  rw [List.drop_eq_getElem_cons h]; simp [h]

/-- The cells of two boxed rows of bytes. -/
def Two (w wr : World) (X Y : List Int) : Prop := ∀ k, k < 6 → wr.cell? ⟨w.heap.size, k, none⟩ = some (.int .u8 (X.getD k 0)) ∧ wr.cell? ⟨w.heap.size + 1, k, none⟩ = some (.int .u8 (Y.getD k 0))

theorem two_box (w : World) (x0 x1 x2 x3 x4 x5 y0 y1 y2 y3 y4 y5 : Int) (q : Nat) : Two w (((w.alloc (.cells #[.int .u8 x0, .int .u8 x1, .int .u8 x2, .int .u8 x3, .int .u8 x4, .int .u8 x5] 22)).alloc (.cells #[.int .u8 y0, .int .u8 y1, .int .u8 y2, .int .u8 y3, .int .u8 y4, .int .u8 y5] 22)).drewN q) [x0, x1, x2, x3, x4, x5] [y0, y1, y2, y3, y4, y5] := by
  intro k hk
  match k, hk with
  | 0, _ => constructor <;> simp [go_sem]
  | 1, _ => constructor <;> simp [go_sem]
  | 2, _ => constructor <;> simp [go_sem]
  | 3, _ => constructor <;> simp [go_sem]
  | 4, _ => constructor <;> simp [go_sem]
  | 5, _ => constructor <;> simp [go_sem]

theorem drewN_more {w wr : World} {q : Nat} (h : wr = w.drewN q) (n : Nat) : ∃ q', wr.drewN n = w.drewN q' := ⟨q + n, by rw [h]; simp [go_sem]⟩

set_option maxHeartbeats 1000000 in
theorem cmp6_core (x0 x1 x2 x3 x4 x5 y0 y1 y2 y3 y4 y5 R : Int) (HR : Hid (cmpL [x0, x1, x2, x3, x4, x5] [y0, y1, y2, y3, y4, y5] = R)) (w : World) :
    Calls Try.prog 10 #[.agg #[.int .u8 x0, .int .u8 x1, .int .u8 x2, .int .u8 x3, .int .u8 x4, .int .u8 x5], .agg #[.int .u8 y0, .int .u8 y1, .int .u8 y2, .int .u8 y3, .int .u8 y4, .int .u8 y5]] w fun e w' => e = .returned (.int .i64 R) ∧ ∃ q, w' = ((w.alloc (.cells #[.int .u8 x0, .int .u8 x1, .int .u8 x2, .int .u8 x3, .int .u8 x4, .int .u8 x5] 22)).alloc (.cells #[.int .u8 y0, .int .u8 y1, .int .u8 y2, .int .u8 y3, .int .u8 y4, .int .u8 y5] 22)).drewN q := by
  obtain ⟨X, hX⟩ : ∃ X, X = [x0, x1, x2, x3, x4, x5] := ⟨_, rfl⟩
  obtain ⟨Y, hY⟩ : ∃ Y, Y = [y0, y1, y2, y3, y4, y5] := ⟨_, rfl⟩
  have HX : Hid (X.length = 6) := by show _ = _; rw [hX]; rfl
  have HY : Hid (Y.length = 6) := by show _ = _; rw [hY]; rfl
  have H2 : Hid (∀ q, Two w (((w.alloc (.cells #[.int .u8 x0, .int .u8 x1, .int .u8 x2, .int .u8 x3, .int .u8 x4, .int .u8 x5] 22)).alloc (.cells #[.int .u8 y0, .int .u8 y1, .int .u8 y2, .int .u8 y3, .int .u8 y4, .int .u8 y5] 22)).drewN q) X Y) := fun q => by rw [hX, hY]; exact two_box w _ _ _ _ _ _ _ _ _ _ _ _ q
  have HR' : Hid (cmpL X Y = R) := by show _ = _; rw [hX, hY]; exact HR
  clear hX hY HR
  go_enter Try.func10, Try.ntmps10
  go_wp2
  go_loopw [5] (fun i wr => ∃ k : Nat, k ≤ 6 ∧ i = .int .i64 k ∧ Hid (∃ q, wr = ((w.alloc (.cells #[.int .u8 x0, .int .u8 x1, .int .u8 x2, .int .u8 x3, .int .u8 x4, .int .u8 x5] 22)).alloc (.cells #[.int .u8 y0, .int .u8 y1, .int .u8 y2, .int .u8 y3, .int .u8 y4, .int .u8 y5] 22)).drewN q) ∧ Hid (cmpL (X.drop k) (Y.drop k) = R)) (fun i _ => 6 - (intOf i).toNat)
  case atStart => exact ⟨0, by omega, rfl, ⟨0, rfl⟩, HR'⟩
  case round =>
    obtain ⟨k, hk, rfl, hw, hR⟩ := hrel
    by_cases hlt : k < 6
    · have hc : Two w wr X Y := by obtain ⟨q, hq⟩ := hw; rw [hq]; exact H2.out q
      obtain ⟨cx, cy⟩ := hc k hlt
      have hR' := hR.out
      rw [drop6 X k (by rw [HX.out]; exact hlt), drop6 Y k (by rw [HY.out]; exact hlt), cmpL] at hR'
      obtain ⟨a, ha⟩ : ∃ a, a = X.getD k 0 := ⟨_, rfl⟩
      obtain ⟨b, hb⟩ : ∃ b, b = Y.getD k 0 := ⟨_, rfl⟩
      rw [← ha] at cx hR'
      rw [← hb] at cy hR'
      have i1 : (k : Int) < 6 := by omega
      clear hc ha hb hR H2
      by_cases h1 : a < b
      · rw [if_pos h1] at hR'
        have HH : Hid (-1 = R) := hR'
        have d1 : decide (a < b) = true := decide_eq_true h1
        clear hR'
        go_wp2
        go_quiet (fail)
        go_wp2
        go_ret
        exact ⟨ret_int HH.out, by obtain ⟨q, hq⟩ := hw; exact drewN_more hq _⟩
      · rw [if_neg h1] at hR'
        have d1 : decide (a < b) = false := decide_eq_false h1
        by_cases h2 : b < a
        · rw [if_pos h2] at hR'
          have HH : Hid (1 = R) := hR'
          have d2 : decide (b < a) = true := decide_eq_true h2
          clear hR' h1
          go_wp2
          go_quiet (fail)
          go_wp2
          go_quiet (fail)
          go_wp2
          go_ret
          exact ⟨ret_int HH.out, by obtain ⟨q, hq⟩ := hw; obtain ⟨q1, hq1⟩ := drewN_more hq _; exact drewN_more hq1 _⟩
        · rw [if_neg h2] at hR'
          have HH : Hid (cmpL (X.drop (k + 1)) (Y.drop (k + 1)) = R) := hR'
          have d2 : decide (b < a) = false := decide_eq_false h2
          clear hR' h1 h2
          go_wp2
          go_quiet (fail)
          go_wp2
          go_quiet (fail)
          go_wp2
          go_roundw
          case rel => exact ⟨k + 1, by omega, by go_num, by obtain ⟨q, hq⟩ := hw; exact drewN_more hq _, HH⟩
          case measure => simp [intOf]; omega
    · have HH : Hid (0 = R) := by
        have hR' := hR.out
        rw [List.drop_of_length_le (by rw [HX.out]; omega), List.drop_of_length_le (by rw [HY.out]; omega)] at hR'
        exact hR'
      go_wp2
      go_ret
      exact ⟨ret_int HH.out, hw⟩

end Go.Proofs.Qxb6003652a
