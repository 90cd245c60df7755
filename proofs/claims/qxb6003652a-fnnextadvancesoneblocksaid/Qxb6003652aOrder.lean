/-
  THE WALK OF THE LAW FnBytesKeepsOrder (seat b6003652a).
-/
import Derived.Test.Qxb6003652aCmp
import Derived.Deep.RegionWith
namespace Go.Proofs.Qxb6003652a
open Go.RowKit
set_option linter.unusedVariables false

theorem cmp6_six (s t : Int) (h0 : 0 ≤ s) (h1 : s ≤ 281474976710655) (k0 : 0 ≤ t) (k1 : t ≤ 281474976710655) (w : World) :
    Calls Try.prog 10 #[.agg #[.int .u8 (s / 1099511627776 % 256), .int .u8 (s / 4294967296 % 256), .int .u8 (s / 16777216 % 256), .int .u8 (s / 65536 % 256), .int .u8 (s / 256 % 256), .int .u8 (s % 256)], .agg #[.int .u8 (t / 1099511627776 % 256), .int .u8 (t / 4294967296 % 256), .int .u8 (t / 16777216 % 256), .int .u8 (t / 65536 % 256), .int .u8 (t / 256 % 256), .int .u8 (t % 256)]] w fun e w' => e = .returned (.int .i64 (cmpI s t)) ∧ ∃ q, w' = ((w.alloc (.cells #[.int .u8 (s / 1099511627776 % 256), .int .u8 (s / 4294967296 % 256), .int .u8 (s / 16777216 % 256), .int .u8 (s / 65536 % 256), .int .u8 (s / 256 % 256), .int .u8 (s % 256)] 22)).alloc (.cells #[.int .u8 (t / 1099511627776 % 256), .int .u8 (t / 4294967296 % 256), .int .u8 (t / 16777216 % 256), .int .u8 (t / 65536 % 256), .int .u8 (t / 256 % 256), .int .u8 (t % 256)] 22)).drewN q := by
  refine cmp6_core (s / 1099511627776 % 256) (s / 4294967296 % 256) (s / 16777216 % 256) (s / 65536 % 256) (s / 256 % 256) (s % 256) (t / 1099511627776 % 256) (t / 4294967296 % 256) (t / 16777216 % 256) (t / 65536 % 256) (t / 256 % 256) (t % 256) (cmpI s t) ?_ w
  show _ = _
  rw [cmpL_val (s / 1099511627776 % 256) (s / 4294967296 % 256) (s / 16777216 % 256) (s / 65536 % 256) (s / 256 % 256) (s % 256) (t / 1099511627776 % 256) (t / 4294967296 % 256) (t / 16777216 % 256) (t / 65536 % 256) (t / 256 % 256) (t % 256) (by omega) (by omega) (by omega) (by omega) (by omega) (by omega) (by omega) (by omega) (by omega) (by omega) (by omega) (by omega) (by omega) (by omega) (by omega) (by omega) (by omega) (by omega) (by omega) (by omega) (by omega) (by omega) (by omega) (by omega), val_six s h0, val_six t k0]
  congr 1 <;> omega

theorem sqn_six (s : Int) (h0 : 0 ≤ s) (h1 : s ≤ 281474976710655) (w : World) :
    Calls Try.prog 8 #[.agg #[.int .u8 (s / 1099511627776 % 256), .int .u8 (s / 4294967296 % 256), .int .u8 (s / 16777216 % 256), .int .u8 (s / 65536 % 256), .int .u8 (s / 256 % 256), .int .u8 (s % 256)]] w fun e w' => e = .returned (.int .u64 s) ∧ w' = w.alloc (.cells #[.int .u8 (s / 1099511627776 % 256), .int .u8 (s / 4294967296 % 256), .int .u8 (s / 16777216 % 256), .int .u8 (s / 65536 % 256), .int .u8 (s / 256 % 256), .int .u8 (s % 256)] 22) :=
  (sqn_any (s / 1099511627776 % 256) (s / 4294967296 % 256) (s / 16777216 % 256) (s / 65536 % 256) (s / 256 % 256) (s % 256) (by omega) (by omega) (by omega) (by omega) (by omega) (by omega) (by omega) (by omega) (by omega) (by omega) (by omega) (by omega) w).mono fun e w' h => ⟨h.1.trans (ret_int (by rw [val_six s h0]; omega)), h.2⟩

theorem Grown.drewN {W w' : World} (h : Grown W w') (n : Nat) : Grown W (w'.drewN n) := h

set_option maxHeartbeats 400000 in
theorem order_idle (s t : Int) (h0 : 0 ≤ s) (k0 : 0 ≤ t) (w : World) (h : 281474976710655 < s ∨ 281474976710655 < t) :
    Calls Try.prog 5 #[.int .u64 s, .int .u64 t] w fun e w' => e = .returned (.bool true) ∧ Grown w w' := by
  by_cases hs : 281474976710655 < s
  · have d : decide (281474976710655 < s) = true := decide_eq_true hs
    clear h hs
    go_enter Try.func5, Try.ntmps5
    go_wp2
    go_ret
    exact ⟨rfl, Grown.refl _⟩
  · have d : decide (281474976710655 < s) = false := decide_eq_false hs
    have d2 : decide (281474976710655 < t) = true := decide_eq_true (by omega)
    clear h hs
    go_enter Try.func5, Try.ntmps5
    go_wp2
    go_ret
    exact ⟨rfl, Grown.refl _⟩

set_option maxHeartbeats 1000000 in
theorem order_look (s t c : Int) (h0 : 0 ≤ s) (h1 : s ≤ 281474976710655) (k0 : 0 ≤ t) (k1 : t ≤ 281474976710655) (w : World) (hc : cmpI s t = c) (hu : (decide (s < t) = true ∧ c = -1) ∨ (decide (s < t) = false ∧ decide (t < s) = true ∧ c = 1) ∨ (decide (s < t) = false ∧ decide (t < s) = false ∧ c = 0)) :
    Calls Try.prog 5 #[.int .u64 s, .int .u64 t] w fun e w' => e = .returned (.bool true) ∧ Grown w w' := by
  have d : decide (281474976710655 < s) = false := decide_eq_false (by omega)
  have d2 : decide (281474976710655 < t) = false := decide_eq_false (by omega)
  rcases hu with ⟨u1, rfl⟩ | ⟨u1, u2, rfl⟩ | ⟨u1, u2, rfl⟩
  all_goals
    go_enter Try.func5, Try.ntmps5
    go_wp2_with (first
      | (go_at_call_of 9 s; refine (bytes_any s h0 (by omega) _).mono ?_; rintro e w' ⟨rfl, rfl⟩)
      | (go_at_call_of 9 t; refine (bytes_any t k0 (by omega) _).mono ?_; rintro e w' ⟨rfl, rfl⟩)
      | (go_at_call 10; refine (cmp6_six s t h0 h1 k0 k1 _).mono ?_; rintro e w' ⟨rfl, q, rfl⟩)
      | (go_at_call_of 8 s; refine (sqn_six s h0 h1 _).mono ?_; rintro e w' ⟨rfl, rfl⟩)
      | (go_at_call_of 8 t; refine (sqn_six t k0 k1 _).mono ?_; rintro e w' ⟨rfl, rfl⟩)
      | go_in)
    go_ret
    exact ⟨by simp, by repeat (first | exact Grown.refl _ | apply Grown.drewN | apply Grown.drew | apply Grown.alloc)⟩

end Go.Proofs.Qxb6003652a
