/-
  THE PLAIN LAWS OF SEAT b6003652a: or, and, shifts on uint64, said by * and + and % over Int: no Go in sight.
-/
import Derived.Laws.BitsAllLaws
namespace Go.Proofs.Qxb6003652a.Pl
open Go

/-- 'a<<8 | c' where nothing is lost. -/
theorem or8 (a c : Int) (h0 : 0 ≤ a) (h1 : a < 72057594037927936) (h2 : 0 ≤ c) (h3 : c ≤ 255) : bits .or .u64 (a * 256) c = a * 256 + c := by
  rw [u64_or (a * 256) c (by omega) (by omega) h2 (by omega)]
  obtain ⟨a, rfl⟩ := Int.eq_ofNat_of_zero_le h0
  obtain ⟨c, rfl⟩ := Int.eq_ofNat_of_zero_le h2
  have e : ((a : Int) * 256).toNat = 2 ^ 8 * a := by omega
  have e' : ((c : Int)).toNat = c := by omega
  rw [e, e', ← Nat.two_pow_add_eq_or_of_lt (show c < 2 ^ 8 by omega)]
  omega

/-- 'a<<5 | c' where nothing is lost. -/
theorem or5 (a c : Int) (h0 : 0 ≤ a) (h1 : a < 576460752303423488) (h2 : 0 ≤ c) (h3 : c < 32) : bits .or .u64 (a * 32) c = a * 32 + c := by
  rw [u64_or (a * 32) c (by omega) (by omega) h2 (by omega)]
  obtain ⟨a, rfl⟩ := Int.eq_ofNat_of_zero_le h0
  obtain ⟨c, rfl⟩ := Int.eq_ofNat_of_zero_le h2
  have e : ((a : Int) * 32).toNat = 2 ^ 5 * a := by omega
  have e' : ((c : Int)).toNat = c := by omega
  rw [e, e', ← Nat.two_pow_add_eq_or_of_lt (show c < 2 ^ 5 by omega)]
  omega

theorem or0 (c : Int) (h2 : 0 ≤ c) (h3 : c ≤ 255) : bits .or .u64 0 c = c := by
  have := or8 0 c (by omega) (by omega) h2 h3
  simpa using this

/-- 's & (1<<48 - 1)'. -/
theorem and48 (s : Int) (h0 : 0 ≤ s) (h1 : s ≤ 18446744073709551615) : bits .and .u64 s 281474976710655 = s % 281474976710656 := by
  rw [u64_and s 281474976710655 h0 (by omega) (by omega) (by omega)]
  obtain ⟨s, rfl⟩ := Int.eq_ofNat_of_zero_le h0
  have e' : ((s : Int)).toNat = s := by omega
  have e : (281474976710655 : Int).toNat = 2 ^ 48 - 1 := by decide
  rw [e, e', Nat.and_two_pow_sub_one_eq_mod]
  omega

end Go.Proofs.Qxb6003652a.Pl
