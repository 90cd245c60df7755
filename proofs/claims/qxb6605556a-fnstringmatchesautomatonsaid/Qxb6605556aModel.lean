/-
  THE WALK OF stringModel (seat b6605556a).
-/
import Derived.Test.Qxb6605556aEsc
namespace Go.Proofs.Qxb6605556a
open Go.RowKit

/-- What stringModel hands back. -/
def sret : Option (Int × Bool) → Value
  | some (i, e) => .tuple #[.int .i64 i, .bool e, .bool true]
  | none => .tuple #[.int .i64 0, .bool false, .bool false]

theorem ret_s {v : Value} {R R' : Option (Int × Bool)} (h : R' = R) (hv : v = sret R') : Ending.returned v = .returned (sret R) := by rw [hv, h]

set_option maxHeartbeats 1000000 in
/-- stringModel. -/
theorem stringModel_any (b off n cap p : Nat) (zs : List Int) (w : World) (R : Option (Int × Bool)) (HR : Hid (Pl.smod 0 false ((p + 1 : Nat) : Int) (zs.drop (p + 1)) = R)) (HN : Hid (zs.length = n)) (hm : n ≤ 1048576) (hp : p < n) (hrow : Row w b off zs) :
    Calls Try.prog 11 #[.slice (some ⟨b, off, none⟩) n cap, .int .i64 (p : Int)] w fun e w' => e = .returned (sret R) ∧ w' = w := by
  go_enter Try.func11, Try.ntmps11
  go_wp2
  go_loop [7, 8, 9] (fun s e i => ∃ (k : Nat) (st : Int) (eb : Bool), k ≤ n ∧ 0 ≤ st ∧ st ≤ 5 ∧ i = .int .i64 k ∧ s = .int .i64 st ∧ e = .bool eb ∧ Hid (Pl.smod st eb k (zs.drop k) = R)) (fun _ _ i => n + 1 - (intOf i).toNat)
  case atStart => exact ⟨p + 1, 0, false, by omega, by omega, by omega, by go_num, rfl, rfl, HR⟩
  case round =>
    obtain ⟨k, st, eb, hk2, hs1, hs2, rfl, rfl, rfl, hrel⟩ := hrel
    by_cases hlt : k < n
    · have hd := drop_at zs k (by rw [HN.out]; exact hlt)
      have hcell := hrow k (by rw [HN.out]; exact hlt)
      obtain ⟨z, hz⟩ : ∃ z, z = zs.getD k 0 := ⟨_, rfl⟩
      rw [← hz] at hd hcell
      have hrel' := hrel.out
      rw [hd, Pl.smod] at hrel'
      clear hd hz hrow hrel HR
      by_cases hst : st = 0
      · subst hst
        rw [if_pos rfl] at hrel'
        by_cases h34 : z = 34
        · subst h34
          rw [if_pos rfl] at hrel'
          have H1 : Hid (some ((k : Int), eb) = R) := hrel'
          clear hrel'
          go_wp2
          go_ret3
          exact ⟨ret_s H1.out rfl, rfl⟩
        · rw [if_neg h34] at hrel'
          have b34 : (z == 34) = false := by simpa using h34
          by_cases h92 : z = 92
          · subst h92
            rw [if_pos rfl] at hrel'
            have H1 : Hid (Pl.smod 1 true ((k : Int) + 1) (zs.drop (k + 1)) = R) := hrel'
            clear hrel' h34
            go_wp2
            go_round
            case rel => exact ⟨k + 1, 1, true, by omega, by omega, by omega, by go_num, rfl, rfl, H1⟩
            case measure => simp [intOf]; omega
          · rw [if_neg h92] at hrel'
            have b92 : (z == 92) = false := by simpa using h92
            by_cases h32 : z < 32
            · rw [if_pos h32] at hrel'
              have H1 : Hid (Option.none = R) := hrel'
              clear hrel' h34 h92
              go_wp2
              go_ret3
              exact ⟨ret_s H1.out rfl, rfl⟩
            · rw [if_neg h32] at hrel'
              have H1 : Hid (Pl.smod 0 eb ((k : Int) + 1) (zs.drop (k + 1)) = R) := hrel'
              clear hrel' h34 h92
              go_wp2
              go_round
              case rel => exact ⟨k + 1, 0, eb, by omega, by omega, by omega, by go_num, rfl, rfl, H1⟩
              case measure => simp [intOf]; omega
      · rw [if_neg hst] at hrel'
        have bst : (st == 0) = false := by simpa using hst
        have h1 : 1 ≤ st := by omega
        have hle := estep_le st z h1 hs2
        by_cases h0 : Pl.estep st z < 0
        · rw [if_pos h0] at hrel'
          have H1 : Hid (Option.none = R) := hrel'
          clear hrel' hst
          go_wp2_with (go_at_call 18; refine (escStep_any st z h1 hs2 _).mono ?_; rintro e w' ⟨rfl, rfl⟩)
          go_ret3
          exact ⟨ret_s H1.out rfl, rfl⟩
        · rw [if_neg h0] at hrel'
          have H1 : Hid (Pl.smod (Pl.estep st z) eb ((k : Int) + 1) (zs.drop (k + 1)) = R) := hrel'
          clear hrel' hst
          go_wp2_with (go_at_call 18; refine (escStep_any st z h1 hs2 _).mono ?_; rintro e w' ⟨rfl, rfl⟩)
          go_round
          case rel => exact ⟨k + 1, Pl.estep st z, eb, by omega, by omega, hle, by go_num, rfl, rfl, H1⟩
          case measure => simp [intOf]; omega
    · have hrel' := hrel.out
      rw [List.drop_of_length_le (by rw [HN.out]; omega), Pl.smod] at hrel'
      have H1 : Hid (Option.none = R) := hrel'
      clear hrel' hrel HR
      go_wp2
      go_ret3
      exact ⟨ret_s H1.out rfl, rfl⟩

end Go.Proofs.Qxb6605556a
