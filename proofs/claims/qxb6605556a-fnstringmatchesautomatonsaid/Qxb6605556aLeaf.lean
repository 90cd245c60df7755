/-
  THE WALKS OF THE LEAVES of seat b6605556a: inSet, isDigit, escStep.
-/
import Derived.Test.Qxb6605556aRows
import Derived.Test.Qxb6605556aPlain
import Derived.WalkKit
import Derived.WalkSpells
import Derived.WalkLawsBesides
namespace Go.Proofs.Qxb6605556a
open Go.RowKit

theorem ret_bool {a b : Bool} (h : a = b) : Ending.returned (.bool a) = .returned (.bool b) := by rw [h]
theorem ret_int {k : IntKind} {a b : Int} (h : a = b) : Ending.returned (.int k a) = .returned (.int k b) := by rw [h]

theorem take_snoc (s : ByteArray) (k : Nat) (h : k < s.size) : s.data.toList.take (k + 1) = s.data.toList.take k ++ [s[k]] := by
  rw [List.take_succ_eq_append_getElem (by simpa using h)]; rfl
theorem inB_snoc (c : Int) (s : ByteArray) (k : Nat) (h : k < s.size) (hno : Pl.inB c (s.data.toList.take k) = false) (hc : (((s[k].toNat : Nat) : Int) == c) = false) :
    Pl.inB c (s.data.toList.take (k + 1)) = false := by
  rw [take_snoc s k h]
  unfold Pl.inB at hno ⊢
  rw [List.any_append, hno]
  simpa using hc
theorem inB_hit (c : Int) (s : ByteArray) (k : Nat) (h : k < s.size) (hc : (((s[k].toNat : Nat) : Int) == c) = true) : true = Pl.inB c s.data.toList := by
  unfold Pl.inB
  symm
  rw [List.any_eq_true]
  exact ⟨s[k], by show s.data[k] ∈ _; simp, hc⟩

set_option maxHeartbeats 400000 in
/-- inSet. -/
theorem inSet_any (c : Int) (s : ByteArray) (w : World) (hs : s.size ≤ maxLen) :
    Calls Try.prog 24 #[.int .u8 c, .string s] w fun e w' => e = .returned (.bool (Pl.inB c s.data.toList)) ∧ w' = w := by
  unfold maxLen at hs
  go_enter Try.func24, Try.ntmps24
  go_wp2
  go_loop [5] (fun i => ∃ k : Nat, k ≤ s.size ∧ i = .int .i64 k ∧ Hid (Pl.inB c (s.data.toList.take k) = false)) (fun i => s.size - (intOf i).toNat)
  case atStart => exact ⟨0, Nat.zero_le _, rfl, rfl⟩
  case round =>
    obtain ⟨k, hk, rfl, hno⟩ := hrel
    by_cases hlt : k < s.size
    · go_wp2
      · go_ret
        exact ⟨ret_bool (inB_hit c s k hlt ‹_›), rfl⟩
      · go_round
        case rel => exact ⟨k + 1, by omega, by go_num, inB_snoc c s k hlt hno.out ‹_›⟩
        case measure => simp [intOf]; omega
    · go_wp2
      go_ret
      exact ⟨ret_bool (by have := hno.out; rw [List.take_of_length_le (by simp; omega)] at this; exact this.symm), rfl⟩

theorem inSet_short (c : Int) (w : World) :
    Calls Try.prog 24 #[.int .u8 c, .string { data := #[34, 92, 47, 98, 102, 110, 114, 116] }] w fun e w' => e = .returned (.bool (Pl.sh c)) ∧ w' = w :=
  (inSet_any c { data := #[34, 92, 47, 98, 102, 110, 114, 116] } w (by decide)).mono fun e w' h => ⟨h.1.trans (ret_bool (Pl.inB_short c)), h.2⟩
theorem inSet_hex (c : Int) (w : World) :
    Calls Try.prog 24 #[.int .u8 c, .string { data := #[48, 49, 50, 51, 52, 53, 54, 55, 56, 57, 97, 98, 99, 100, 101, 102, 65, 66, 67, 68, 69, 70] }] w fun e w' => e = .returned (.bool (Pl.hx c)) ∧ w' = w :=
  (inSet_any c { data := #[48, 49, 50, 51, 52, 53, 54, 55, 56, 57, 97, 98, 99, 100, 101, 102, 65, 66, 67, 68, 69, 70] } w (by decide)).mono fun e w' h => ⟨h.1.trans (ret_bool (Pl.inB_hex c)), h.2⟩

set_option maxHeartbeats 400000 in
/-- escStep. -/
theorem escStep_any (st c : Int) (h1 : 1 ≤ st) (h2 : st ≤ 5) (w : World) :
    Calls Try.prog 18 #[.int .i64 st, .int .u8 c] w fun e w' => e = .returned (.int .i64 (Pl.estep st c)) ∧ w' = w := by
  by_cases h : st = 1
  · subst h
    cases hs : Pl.sh c with
    | true =>
      have e := Pl.estep_one_sh hs
      have E : Hid (Pl.estep 1 c = 0) := e
      clear e
      go_enter Try.func18, Try.ntmps18
      go_wp2_with (go_at_call 24; refine (inSet_short c _).mono ?_; rintro e w' ⟨rfl, rfl⟩)
      go_ret
      exact ⟨ret_int E.out.symm, rfl⟩
    | false =>
      by_cases hu : c = 117
      · subst hu
        go_enter Try.func18, Try.ntmps18
        go_wp2_with (go_at_call 24; refine (inSet_short _ _).mono ?_; rintro e w' ⟨rfl, rfl⟩)
        go_ret
        exact ⟨ret_int Pl.estep_one_u.symm, rfl⟩
      · have E : Hid (Pl.estep 1 c = -1) := Pl.estep_one_no hs hu
        have hu' : (c == 117) = false := by simpa using hu
        clear hu
        go_enter Try.func18, Try.ntmps18
        go_wp2_with (go_at_call 24; refine (inSet_short c _).mono ?_; rintro e w' ⟨rfl, rfl⟩)
        go_ret
        exact ⟨ret_int E.out.symm, rfl⟩
  · have hb : (st == 1) = false := by simpa using h
    cases hs : Pl.hx c with
    | true =>
      by_cases h5 : st = 5
      · subst h5
        have E : Hid (Pl.estep 5 c = 0) := Pl.estep_5 hs
        go_enter Try.func18, Try.ntmps18
        go_wp2_with (go_at_call 24; refine (inSet_hex c _).mono ?_; rintro e w' ⟨rfl, rfl⟩)
        go_ret
        exact ⟨ret_int E.out.symm, rfl⟩
      · have E : Hid (Pl.estep st c = st + 1) := Pl.estep_hx h h5 hs
        have h5' : (st == 5) = false := by simpa using h5
        clear h h5
        go_enter Try.func18, Try.ntmps18
        go_wp2_with (go_at_call 24; refine (inSet_hex c _).mono ?_; rintro e w' ⟨rfl, rfl⟩)
        go_ret
        exact ⟨ret_int E.out.symm, rfl⟩
    | false =>
      have E : Hid (Pl.estep st c = -1) := Pl.estep_no h hs
      clear h
      go_enter Try.func18, Try.ntmps18
      go_wp2_with (go_at_call 24; refine (inSet_hex c _).mono ?_; rintro e w' ⟨rfl, rfl⟩)
      go_ret
      exact ⟨ret_int E.out.symm, rfl⟩

end Go.Proofs.Qxb6605556a
