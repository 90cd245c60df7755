/-
  THE WALKS OF SQNFromBytes, Bytes (seat b6003652a).
-/
import Derived.Test.Qxb6003652aRows
import Derived.Test.Qxb6003652aPlain
import Derived.WalkKit
import Derived.WalkSpells
import Derived.WalkLawsBesides
namespace Go.Proofs.Qxb6003652a
open Go.RowKit
set_option linter.unusedVariables false

theorem ret_int {k : IntKind} {a b : Int} (h : a = b) : Ending.returned (.int k a) = .returned (.int k b) := by rw [h]

set_option maxHeartbeats 400000 in
/-- (SQN).Bytes. -/
theorem bytes_any (s : Int) (h0 : 0 ≤ s) (h1 : s ≤ 18446744073709551615) (w : World) :
    Calls Try.prog 9 #[.int .u64 s] w fun e w' => e = .returned (.agg #[.int .u8 (s / 1099511627776 % 256), .int .u8 (s / 4294967296 % 256), .int .u8 (s / 16777216 % 256), .int .u8 (s / 65536 % 256), .int .u8 (s / 256 % 256), .int .u8 (s % 256)]) ∧ w' = (w.alloc (.cells #[.int .u8 (s / 1099511627776 % 256), .int .u8 (s / 4294967296 % 256), .int .u8 (s / 16777216 % 256), .int .u8 (s / 65536 % 256), .int .u8 (s / 256 % 256), .int .u8 (s % 256)] 22)).alloc (.cells #[.int .u8 (s / 1099511627776 % 256), .int .u8 (s / 4294967296 % 256), .int .u8 (s / 16777216 % 256), .int .u8 (s / 65536 % 256), .int .u8 (s / 256 % 256), .int .u8 (s % 256)] 22) := by
  go_enter Try.func9, Try.ntmps9
  go_wp2
  refine wp_loop_rounds 7 ?_
  iterate 7 (rw [rounds_succ]; go_wp2)
  exact bodyPost_ret (v := .agg #[.int .u8 (s / 1099511627776 % 256), .int .u8 (s / 4294967296 % 256), .int .u8 (s / 16777216 % 256), .int .u8 (s / 65536 % 256), .int .u8 (s / 256 % 256), .int .u8 (s % 256)]) (by simp [results, Try.results9, go_sem]) rfl ⟨rfl, rfl⟩

set_option maxHeartbeats 400000 in
/-- SQNFromBytes, each round's answer under a name. -/
theorem sqn_core (x0 x1 x2 x3 x4 x5 y1 y2 y3 y4 y5 : Int) (h0 : 0 ≤ x0) (k0 : x0 ≤ 255) (h1 : 0 ≤ x1) (k1 : x1 ≤ 255) (h2 : 0 ≤ x2) (k2 : x2 ≤ 255) (h3 : 0 ≤ x3) (k3 : x3 ≤ 255) (h4 : 0 ≤ x4) (k4 : x4 ≤ 255) (h5 : 0 ≤ x5) (k5 : x5 ≤ 255) (p1 : 0 ≤ y1) (q1 : y1 ≤ 65535) (p2 : 0 ≤ y2) (q2 : y2 ≤ 16777215) (p3 : 0 ≤ y3) (q3 : y3 ≤ 4294967295) (p4 : 0 ≤ y4) (q4 : y4 ≤ 1099511627775) (p5 : 0 ≤ y5) (q5 : y5 ≤ 281474976710655)
    (e0 : bits .or .u64 0 x0 = x0) (e1 : bits .or .u64 (x0 * 256) x1 = y1) (e2 : bits .or .u64 (y1 * 256) x2 = y2) (e3 : bits .or .u64 (y2 * 256) x3 = y3) (e4 : bits .or .u64 (y3 * 256) x4 = y4) (e5 : bits .or .u64 (y4 * 256) x5 = y5) (w : World) :
    Calls Try.prog 8 #[.agg #[.int .u8 x0, .int .u8 x1, .int .u8 x2, .int .u8 x3, .int .u8 x4, .int .u8 x5]] w fun e w' => e = .returned (.int .u64 y5) ∧ w' = w.alloc (.cells #[.int .u8 x0, .int .u8 x1, .int .u8 x2, .int .u8 x3, .int .u8 x4, .int .u8 x5] 22) := by
  have i0 : ∀ w, (Instr.index 22 (.agg #[.int .u8 x0, .int .u8 x1, .int .u8 x2, .int .u8 x3, .int .u8 x4, .int .u8 x5]) (.int .i64 0)).run Try.prog w = .ok (.int .u8 x0) w := fun _ => by kernel_rfl
  have i1 : ∀ w, (Instr.index 22 (.agg #[.int .u8 x0, .int .u8 x1, .int .u8 x2, .int .u8 x3, .int .u8 x4, .int .u8 x5]) (.int .i64 1)).run Try.prog w = .ok (.int .u8 x1) w := fun _ => by kernel_rfl
  have i2 : ∀ w, (Instr.index 22 (.agg #[.int .u8 x0, .int .u8 x1, .int .u8 x2, .int .u8 x3, .int .u8 x4, .int .u8 x5]) (.int .i64 2)).run Try.prog w = .ok (.int .u8 x2) w := fun _ => by kernel_rfl
  have i3 : ∀ w, (Instr.index 22 (.agg #[.int .u8 x0, .int .u8 x1, .int .u8 x2, .int .u8 x3, .int .u8 x4, .int .u8 x5]) (.int .i64 3)).run Try.prog w = .ok (.int .u8 x3) w := fun _ => by kernel_rfl
  have i4 : ∀ w, (Instr.index 22 (.agg #[.int .u8 x0, .int .u8 x1, .int .u8 x2, .int .u8 x3, .int .u8 x4, .int .u8 x5]) (.int .i64 4)).run Try.prog w = .ok (.int .u8 x4) w := fun _ => by kernel_rfl
  have i5 : ∀ w, (Instr.index 22 (.agg #[.int .u8 x0, .int .u8 x1, .int .u8 x2, .int .u8 x3, .int .u8 x4, .int .u8 x5]) (.int .i64 5)).run Try.prog w = .ok (.int .u8 x5) w := fun _ => by kernel_rfl
  go_enter Try.func8, Try.ntmps8
  go_wp2
  refine wp_loop_rounds 7 ?_
  iterate 7 (rw [rounds_succ]; go_wp2)
  go_ret
  exact ⟨rfl, rfl⟩

/-- What SQNFromBytes reads. -/
def val (x0 x1 x2 x3 x4 x5 : Int) : Int := ((((x0 * 256 + x1) * 256 + x2) * 256 + x3) * 256 + x4) * 256 + x5

/-- SQNFromBytes. -/
theorem sqn_any (x0 x1 x2 x3 x4 x5 : Int) (h0 : 0 ≤ x0) (k0 : x0 ≤ 255) (h1 : 0 ≤ x1) (k1 : x1 ≤ 255) (h2 : 0 ≤ x2) (k2 : x2 ≤ 255) (h3 : 0 ≤ x3) (k3 : x3 ≤ 255) (h4 : 0 ≤ x4) (k4 : x4 ≤ 255) (h5 : 0 ≤ x5) (k5 : x5 ≤ 255) (w : World) :
    Calls Try.prog 8 #[.agg #[.int .u8 x0, .int .u8 x1, .int .u8 x2, .int .u8 x3, .int .u8 x4, .int .u8 x5]] w fun e w' => e = .returned (.int .u64 (val x0 x1 x2 x3 x4 x5)) ∧ w' = w.alloc (.cells #[.int .u8 x0, .int .u8 x1, .int .u8 x2, .int .u8 x3, .int .u8 x4, .int .u8 x5] 22) :=
  sqn_core x0 x1 x2 x3 x4 x5 (x0 * 256 + x1) ((x0 * 256 + x1) * 256 + x2) (((x0 * 256 + x1) * 256 + x2) * 256 + x3) ((((x0 * 256 + x1) * 256 + x2) * 256 + x3) * 256 + x4) (val x0 x1 x2 x3 x4 x5)
    h0 k0 h1 k1 h2 k2 h3 k3 h4 k4 h5 k5 (by omega) (by omega) (by omega) (by omega) (by omega) (by omega) (by omega) (by omega) (by unfold val; omega) (by unfold val; omega)
    (Pl.or0 x0 h0 k0) (Pl.or8 _ _ (by omega) (by omega) h1 k1) (Pl.or8 _ _ (by omega) (by omega) h2 k2) (Pl.or8 _ _ (by omega) (by omega) h3 k3) (Pl.or8 _ _ (by omega) (by omega) h4 k4) (Pl.or8 _ _ (by omega) (by omega) h5 k5) w

/-- Reading back what Bytes writes keeps the low 48 bits. -/
theorem val_six (s : Int) (h0 : 0 ≤ s) : val (s / 1099511627776 % 256) (s / 4294967296 % 256) (s / 16777216 % 256) (s / 65536 % 256) (s / 256 % 256) (s % 256) = s % 281474976710656 := by
  unfold val; omega

end Go.Proofs.Qxb6003652a
