/-
  THE READERS OF THE FIRST COMMUNITY OF A KIND (seat b6003712aD): MACMobility, ESILabel, ESImport, RouterMAC, Layer2, DefaultGateway.
-/
import Derived.Test.Qxb6003712aDoorFirst
namespace Go.Proofs.Qxb6003712aDoor
open Go.RowKit
set_option linter.unusedVariables false

theorem or32n (x y : Nat) (k : Nat) (hy : y < 2 ^ k) (hx : 2 ^ k * x < 4294967296) (hy' : y < 4294967296) : bits .or .u32 ((2 ^ k * x : Nat) : Int) (y : Int) = ((2 ^ k * x + y : Nat) : Int) := by
  rw [u32_or_nat (2 ^ k * x) y hx hy', ← Nat.two_pow_add_eq_or_of_lt hy]
theorem or32n' (x y : Nat) (k : Nat) (hy : y < 2 ^ k) (hx : 2 ^ k * x < 4294967296) (hy' : y < 4294967296) : bits .or .u32 (y : Int) ((2 ^ k * x : Nat) : Int) = ((2 ^ k * x + y : Nat) : Int) := by
  rw [u32_or_nat y (2 ^ k * x) hy' hx, Nat.or_comm, ← Nat.two_pow_add_eq_or_of_lt hy]

/-- Four octets as a number. -/
def n32 (x0 x1 x2 x3 : Int) : Int := x0 * 16777216 + x1 * 65536 + x2 * 256 + x3

/-- .. as binary.BigEndian.Uint32 puts them together. -/
theorem le_or (x0 x1 x2 x3 : Int) (h0 : 0 ≤ x0) (k0 : x0 ≤ 255) (h1 : 0 ≤ x1) (k1 : x1 ≤ 255) (h2 : 0 ≤ x2) (k2 : x2 ≤ 255) (h3 : 0 ≤ x3) (k3 : x3 ≤ 255) :
    bits .or .u32 (bits .or .u32 (bits .or .u32 x3 (x2 * 256)) (x1 * 65536)) (x0 * 16777216) = n32 x0 x1 x2 x3 := by
  obtain ⟨x0, rfl⟩ := Int.eq_ofNat_of_zero_le h0
  obtain ⟨x1, rfl⟩ := Int.eq_ofNat_of_zero_le h1
  obtain ⟨x2, rfl⟩ := Int.eq_ofNat_of_zero_le h2
  obtain ⟨x3, rfl⟩ := Int.eq_ofNat_of_zero_le h3
  rw [show ((x2 : Int) * 256) = ((2 ^ 8 * x2 : Nat) : Int) by omega, or32n' x2 x3 8 (by omega) (by omega) (by omega),
    show ((x1 : Int) * 65536) = ((2 ^ 16 * x1 : Nat) : Int) by omega, or32n' x1 _ 16 (by omega) (by omega) (by omega),
    show ((x0 : Int) * 16777216) = ((2 ^ 24 * x0 : Nat) : Int) by omega, or32n' x0 _ 24 (by omega) (by omega) (by omega)]
  unfold n32; omega
/-- .. as c3wBE32 puts them together. -/
theorem be_or (x0 x1 x2 x3 : Int) (h0 : 0 ≤ x0) (k0 : x0 ≤ 255) (h1 : 0 ≤ x1) (k1 : x1 ≤ 255) (h2 : 0 ≤ x2) (k2 : x2 ≤ 255) (h3 : 0 ≤ x3) (k3 : x3 ≤ 255) :
    bits .or .u32 (bits .or .u32 (bits .or .u32 (x0 * 16777216) (x1 * 65536)) (x2 * 256)) x3 = n32 x0 x1 x2 x3 := by
  obtain ⟨x0, rfl⟩ := Int.eq_ofNat_of_zero_le h0
  obtain ⟨x1, rfl⟩ := Int.eq_ofNat_of_zero_le h1
  obtain ⟨x2, rfl⟩ := Int.eq_ofNat_of_zero_le h2
  obtain ⟨x3, rfl⟩ := Int.eq_ofNat_of_zero_le h3
  rw [show ((x0 : Int) * 16777216) = ((2 ^ 24 * x0 : Nat) : Int) by omega, show ((x1 : Int) * 65536) = ((65536 * x1 : Nat) : Int) by omega, or32n x0 _ 24 (by omega) (by omega) (by omega),
    show ((2 ^ 24 * x0 + 65536 * x1 : Nat) : Int) = ((2 ^ 16 * (256 * x0 + x1) : Nat) : Int) by omega, show ((x2 : Int) * 256) = ((256 * x2 : Nat) : Int) by omega, or32n _ _ 16 (by omega) (by omega) (by omega),
    show ((2 ^ 16 * (256 * x0 + x1) + 256 * x2 : Nat) : Int) = ((2 ^ 8 * (65536 * x0 + 256 * x1 + x2) : Nat) : Int) by omega, or32n _ _ 8 (by omega) (by omega) (by omega)]
  unfold n32; omega

set_option maxHeartbeats 400000 in
/-- c3wBE32. -/
theorem be32_any (x0 x1 x2 x3 : Int) (h0 : 0 ≤ x0) (k0 : x0 ≤ 255) (h1 : 0 ≤ x1) (k1 : x1 ≤ 255) (h2 : 0 ≤ x2) (k2 : x2 ≤ 255) (h3 : 0 ≤ x3) (k3 : x3 ≤ 255) (w : World) :
    Calls Tryd.prog 13 #[.int .u8 x0, .int .u8 x1, .int .u8 x2, .int .u8 x3] w fun e w' => e = .returned (.int .u32 (n32 x0 x1 x2 x3)) ∧ w' = w := by
  have e := be_or x0 x1 x2 x3 h0 k0 h1 k1 h2 k2 h3 k3
  go_enter Tryd.func13, Tryd.ntmps13
  go_wp2
  go_ret
  exact ⟨rfl, rfl⟩

set_option maxHeartbeats 1000000 in
/-- binary.BigEndian.Uint32. -/
theorem uint32_any (b o n cap : Nat) (x0 x1 x2 x3 : Int) (h0 : 0 ≤ x0) (k0 : x0 ≤ 255) (h1 : 0 ≤ x1) (k1 : x1 ≤ 255) (h2 : 0 ≤ x2) (k2 : x2 ≤ 255) (h3 : 0 ≤ x3) (k3 : x3 ≤ 255) (w : World) (hn : 4 ≤ n) (hn' : n ≤ 1048576)
    (c0 : w.cell? ⟨b, o, none⟩ = some (.int .u8 x0)) (c1 : w.cell? ⟨b, o + 1, none⟩ = some (.int .u8 x1)) (c2 : w.cell? ⟨b, o + 2, none⟩ = some (.int .u8 x2)) (c3 : w.cell? ⟨b, o + 3, none⟩ = some (.int .u8 x3)) :
    Calls Tryd.prog 26 #[.agg #[], .slice (some ⟨b, o, none⟩) n cap] w fun e w' => e = .returned (.int .u32 (n32 x0 x1 x2 x3)) ∧ ∃ q, w' = (w.alloc (.cells #[] 82)).drewN q := by
  have e := le_or x0 x1 x2 x3 h0 k0 h1 k1 h2 k2 h3 k3
  have i3 : (3 : Int) < (n : Int) := by omega
  have i2 : (2 : Int) < (n : Int) := by omega
  have i1 : (1 : Int) < (n : Int) := by omega
  have i0 : (0 : Int) < (n : Int) := by omega
  have hb : b < w.heap.size := World.block_lt_of_cell? _ _ c0
  go_enter Tryd.func26, Tryd.ntmps26
  go_wp2
  go_quiet (fail)
  go_wp2
  go_ret
  exact ⟨rfl, _, rfl⟩

/-- Three octets as a label, as the Go text puts them together. -/
def lab (x y z : Int) : Int := bits .or .u32 (bits .or .u32 (x * 65536) (y * 256)) z

set_option maxHeartbeats 1000000 in
/-- label. -/
theorem label_any (b o n cap : Nat) (x y z : Int) (h0 : 0 ≤ x) (k0 : x ≤ 255) (h1 : 0 ≤ y) (k1 : y ≤ 255) (h2 : 0 ≤ z) (k2 : z ≤ 255) (w : World) (hn : 3 ≤ n) (hn' : n ≤ 1048576)
    (c0 : w.cell? ⟨b, o, none⟩ = some (.int .u8 x)) (c1 : w.cell? ⟨b, o + 1, none⟩ = some (.int .u8 y)) (c2 : w.cell? ⟨b, o + 2, none⟩ = some (.int .u8 z)) :
    Calls Tryd.prog 27 #[.slice (some ⟨b, o, none⟩) n cap] w fun e w' => e = .returned (.int .u32 (lab x y z)) ∧ ∃ q, w' = w.drewN q := by
  have i2 : (2 : Int) < (n : Int) := by omega
  have i1 : (1 : Int) < (n : Int) := by omega
  have i0 : (0 : Int) < (n : Int) := by omega
  go_enter Tryd.func27, Tryd.ntmps27
  go_wp2
  go_quiet (fail)
  go_wp2
  go_ret
  exact ⟨rfl, _, rfl⟩

end Go.Proofs.Qxb6003712aDoor
