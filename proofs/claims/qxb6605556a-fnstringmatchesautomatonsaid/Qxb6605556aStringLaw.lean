/-
  THE WALK OF THE LAW FnStringMatchesAutomaton (seat b6605556a).
-/
import Derived.Test.Qxb6605556aZZ
import Derived.Test.Qxb6605556aClone
namespace Go.Proofs.Qxb6605556a
open Go.RowKit

theorem smod_ge (l : List Int) : ∀ (st : Int) (eb : Bool) (i j : Int) (e : Bool), Pl.smod st eb i l = some (j, e) → i ≤ j ∧ j < i + l.length := by
  induction l with
  | nil => intro st eb i j e h; rw [Pl.smod] at h; cases h
  | cons c cs ih =>
    intro st eb i j e h
    rw [Pl.smod] at h
    have step : ∀ st' eb', Pl.smod st' eb' (i + 1) cs = some (j, e) → i ≤ j ∧ j < i + (c :: cs).length := fun st' eb' h' => by
      have := ih st' eb' (i + 1) j e h'
      simp only [List.length_cons]
      omega
    by_cases h0 : st = 0
    · rw [if_pos h0] at h
      by_cases h34 : c = 34
      · rw [if_pos h34] at h; cases h; simp only [List.length_cons]; omega
      · rw [if_neg h34] at h
        by_cases h92 : c = 92
        · rw [if_pos h92] at h; exact step _ _ h
        · rw [if_neg h92] at h
          by_cases h32 : c < 32
          · rw [if_pos h32] at h; cases h
          · rw [if_neg h32] at h; exact step _ _ h
    · rw [if_neg h0] at h
      by_cases hn : Pl.estep st c < 0
      · rw [if_pos hn] at h; cases h
      · rw [if_neg hn] at h; exact step _ _ h

/-- stringModel, where the text is no string. -/
theorem stringModel_none (b off n cap p : Nat) (zs : List Int) (w : World) (HR : Hid (Pl.smod 0 false ((p + 1 : Nat) : Int) (zs.drop (p + 1)) = Option.none)) (HN : Hid (zs.length = n)) (hm : n ≤ 1048576) (hp : p < n) (hrow : Hid (Row w b off zs)) :
    Calls Try.prog 11 #[.slice (some ⟨b, off, none⟩) n cap, .int .i64 (p : Int)] w fun e w' => e = .returned (.tuple #[.int .i64 0, .bool false, .bool false]) ∧ w' = w :=
  stringModel_any b off n cap p zs w Option.none HR HN hm hp hrow
/-- stringModel, where the text is a string. -/
theorem stringModel_some (b off n cap p E : Nat) (esc : Bool) (zs : List Int) (w : World) (HR : Hid (Pl.smod 0 false ((p + 1 : Nat) : Int) (zs.drop (p + 1)) = some ((E : Int), esc))) (HN : Hid (zs.length = n)) (hm : n ≤ 1048576) (hp : p < n) (hrow : Hid (Row w b off zs)) :
    Calls Try.prog 11 #[.slice (some ⟨b, off, none⟩) n cap, .int .i64 (p : Int)] w fun e w' => e = .returned (.tuple #[.int .i64 (E : Int), .bool esc, .bool true]) ∧ w' = w :=
  stringModel_any b off n cap p zs w (some ((E : Int), esc)) HR HN hm hp hrow

set_option maxHeartbeats 400000 in
/-- The law, where it does not look. -/
theorem law_idle (a : Option Addr) (n cap : Nat) (q d : Int) (w : World) (hm : n ≤ 9223372036854775807) (h : 1048576 < n ∨ q < 0 ∨ (n : Int) ≤ q) :
    Calls Try.prog 4 #[.slice a n cap, .int .i64 q, .int .i64 d] w fun e w' => e = .returned (.bool true) ∧ w' = w := by
  by_cases hbig : 1048576 < n
  · clear h
    go_enter Try.func4, Try.ntmps4
    go_wp2
    go_ret
    exact ⟨rfl, rfl⟩
  · by_cases hq : q < 0
    · clear h
      go_enter Try.func4, Try.ntmps4
      go_wp2
      go_ret
      exact ⟨rfl, rfl⟩
    · have hge : (n : Int) ≤ q := by omega
      have hd : decide (q < 0) = false := by simpa using hq
      clear h
      go_enter Try.func4, Try.ntmps4
      go_wp2
      go_ret
      exact ⟨rfl, rfl⟩

set_option maxHeartbeats 400000 in
/-- The law, where the automaton meets no string. -/
theorem law_none (x : Addr) (n cap p : Nat) (d : Int) (zs : List Int) (w : World) (hn : n ≤ 1048576) (hz : n ≤ zs.length) (hp : p < n) (hrow : Hid (∀ i, i < zs.length → w.cell? (x.add i) = some (.int .u8 (zs.getD i 0))))
    (HL : Hid ((zs.take n).length = n)) (HR : Hid (Pl.smod 0 false ((p + 1 : Nat) : Int) ((zs.take n).drop (p + 1)) = Option.none)) :
    Calls Try.prog 4 #[.slice (some x) n cap, .int .i64 (p : Int), .int .i64 d] w fun e w' => e = .returned (.bool true) ∧ Below w.heap.size w w' := by
  go_enter Try.func4, Try.ntmps4
  go_wp2_with (first
    | (go_at_call 7; go_must (refine (clone_some x n cap zs w hn hz hrow).mono ?_; rintro e w1 ⟨rfl, hb, hs, hr⟩; have Hb : Hid _ := hb; have Hr : Hid _ := hr; clear hb hs hr))
    | (go_at_call 11; go_must (refine (stringModel_none _ _ _ _ p (zs.take n) _ HR HL hn hp Hr).mono ?_; rintro e w' ⟨rfl, rfl⟩))
    | go_in)
  go_ret
  exact ⟨rfl, Hb.out⟩

set_option maxHeartbeats 1000000 in
/-- The law, where the automaton meets a string's end. -/
theorem law_some (x : Addr) (n cap p E : Nat) (esc : Bool) (d : Int) (zs : List Int) (w : World) (hn : n ≤ 1048576) (hz : n ≤ zs.length) (hp : p < n) (hrow : Hid (∀ i, i < zs.length → w.cell? (x.add i) = some (.int .u8 (zs.getD i 0))))
    (HL : Hid ((zs.take n).length = n)) (HR : Hid (Pl.smod 0 false ((p + 1 : Nat) : Int) ((zs.take n).drop (p + 1)) = some ((E : Int), esc))) (hE1 : p + 1 ≤ E) (hE2 : E < n) :
    Calls Try.prog 4 #[.slice (some x) n cap, .int .i64 (p : Int), .int .i64 d] w fun e w' => e = .returned (.bool true) ∧ Below w.heap.size w w' := by
  have hsub : ((E - (p + 1) : Nat) : Int) = (E : Int) - ((p : Int) + 1) := by omega
  go_enter Try.func4, Try.ntmps4
  go_wp2_with (first
    | (go_at_call 7; go_must (refine (clone_some x n cap zs w hn hz hrow).mono ?_; rintro e w1 ⟨rfl, hb, hs, hr⟩; have Hb : Hid _ := hb; have Hr : Hid _ := hr; clear hb hr))
    | (go_at_call 11; go_must (refine (stringModel_some _ _ _ _ p E esc (zs.take n) _ HR HL hn hp Hr).mono ?_; rintro e w' ⟨rfl, rfl⟩))
    | (go_at_call 12; go_must (refine (zzString_any _ _ _ _ p E esc d (zs.take n) _ HR HL hn hp (Nat.le_refl _) hn hs Hr).mono ?_; rintro e w2 ⟨rfl, hb2⟩; have Hb2 : Hid _ := hb2; clear hb2))
    | go_in)
  have HB : Hid (Below w.heap.size w w2) := Hb.out.trans (Hb2.out.mono (Nat.le_of_lt hs))
  have HC : Hid (∀ k, k < E - (p + 1) → ∃ z, w2.cell? ⟨w.heap.size, p + 1 + k, none⟩ = some (.int .u8 z)) := fun k hk => ⟨_, by
    have h := cell_later Hb2.out (Hr.out (p + 1 + k) (by rw [HL.out]; omega))
    rw [Nat.zero_add] at h; exact h⟩
  clear Hb Hr Hb2 HR hrow hs
  go_loopw [16] (fun j wr => ∃ k : Nat, k ≤ E - (p + 1) ∧ j = .int .i64 k ∧ Hid (∃ q, wr = w2.drewN q)) (fun j _ => E - (p + 1) - (intOf j).toNat)
  case atStart => exact ⟨0, by omega, rfl, 0, rfl⟩
  case round =>
    obtain ⟨k, hk, rfl, q, rfl⟩ := hrel
    by_cases hlt : k < E - (p + 1)
    · obtain ⟨z, hz⟩ := HC.out k hlt
      have i1 : (k : Int) < ((E - (p + 1) : Nat) : Int) := by omega
      have i2 : (p : Int) + 1 + (k : Int) < (n : Int) := by omega
      have i3 : ((p : Int) + 1 + (k : Int)).toNat = p + 1 + k := by omega
      go_wp2
      go_quiet (fail)
      go_wp2
      go_roundw
      case rel => exact ⟨k + 1, by omega, by go_num, q + nq, rfl⟩
      case measure => simp [intOf]; omega
    · go_wp2
      go_ret
      exact ⟨rfl, below_drewN HB.out _⟩

/-- THE LAW: whatever the input, true; nothing that was there has turned. -/
theorem law_any (a0 : Option Addr) (len0 cap0 : Nat) (z0 : List Int) (a1 : Int) (a2 : Int) (w : World) (w0 : IsRow .u8 w a0 len0 cap0 z0) :
    Calls Try.prog 4 #[.slice a0 len0 cap0, .int .i64 a1, .int .i64 a2] w fun e w' => e = .returned (.bool true) ∧ Below w.heap.size w w' := by
  have idle : (1048576 < len0 ∨ a1 < 0 ∨ (len0 : Int) ≤ a1) → len0 ≤ 9223372036854775807 → Calls Try.prog 4 #[.slice a0 len0 cap0, .int .i64 a1, .int .i64 a2] w fun e w' => e = .returned (.bool true) ∧ Below w.heap.size w w' :=
    fun h hm => (law_idle a0 len0 cap0 a1 a2 w hm h).mono fun _ _ h' => ⟨h'.1, by rw [h'.2]; exact Below.refl _ _⟩
  rcases w0 with ⟨rfl, rfl, rfl, rfl⟩ | ⟨x, rfl, hl, hm, hz, hrow, _⟩
  · exact idle (by omega) (by omega)
  · unfold maxLen at hm
    by_cases h : 1048576 < len0 ∨ a1 < 0 ∨ (len0 : Int) ≤ a1
    · exact idle h (by omega)
    · obtain ⟨p, rfl⟩ := Int.eq_ofNat_of_zero_le (show 0 ≤ a1 by omega)
      have hL : (z0.take len0).length = len0 := by simp; omega
      cases hR : Pl.smod 0 false ((p + 1 : Nat) : Int) ((z0.take len0).drop (p + 1)) with
      | none => exact law_none x len0 cap0 p a2 z0 w (by omega) (by omega) (by omega) hrow hL hR
      | some r =>
        obtain ⟨E, esc⟩ := r
        have hE := smod_ge _ _ _ _ _ _ hR
        rw [List.length_drop, hL] at hE
        obtain ⟨E, rfl⟩ := Int.eq_ofNat_of_zero_le (show 0 ≤ E by omega)
        exact law_some x len0 cap0 p E esc a2 z0 w (by omega) (by omega) (by omega) hrow hL hR (by omega) (by omega)

end Go.Proofs.Qxb6605556a
