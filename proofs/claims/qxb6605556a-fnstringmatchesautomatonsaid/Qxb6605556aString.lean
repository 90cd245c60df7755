/-
  THE WALK OF (*reader).string AND ZZString (seat b6605556a), where the string automaton comes to an end.
-/
import Derived.Test.Qxb6605556aModel
namespace Go.Proofs.Qxb6605556a
open Go.RowKit

theorem smod_step {zs : List Int} {k n : Nat} {eb : Bool} {r : Int × Bool} (hn : zs.length = n) (h : Pl.smod 0 eb k (zs.drop k) = some r) :
    k < n ∧ ((zs.getD k 0 = 34 ∧ r = (↑k, eb)) ∨
      (zs.getD k 0 = 92 ∧ ∃ m : Nat, Pl.elen (zs.drop k) = m ∧ 2 ≤ m ∧ k + m ≤ n ∧ Pl.smod 0 true ((k + m : Nat) : Int) (zs.drop (k + m)) = some r) ∨
      (32 ≤ zs.getD k 0 ∧ zs.getD k 0 ≠ 34 ∧ zs.getD k 0 ≠ 92 ∧ Pl.smod 0 eb ((k + 1 : Nat) : Int) (zs.drop (k + 1)) = some r)) := by
  have hk : k < n := by
    rcases Nat.lt_or_ge k n with h' | h'
    · exact h'
    · rw [List.drop_of_length_le (by omega), Pl.smod] at h; cases h
  refine ⟨hk, ?_⟩
  have hd := drop_at zs k (by omega)
  rw [hd, Pl.smod, if_pos rfl] at h
  by_cases h34 : zs.getD k 0 = 34
  · rw [if_pos h34] at h
    exact .inl ⟨h34, by cases h; rfl⟩
  · rw [if_neg h34] at h
    by_cases h92 : zs.getD k 0 = 92
    · rw [if_pos h92] at h
      obtain ⟨m, e1, e2, e3, e4⟩ := Pl.smod_escape (zs.getD k 0) _ _ _ h
      rw [← hd] at e1 e3 e4
      refine .inr (.inl ⟨h92, m, e1, e2, ?_, ?_⟩)
      · simp at e3; omega
      · rw [List.drop_drop] at e4
        exact e4
    · rw [if_neg h92] at h
      by_cases h32 : zs.getD k 0 < 32
      · rw [if_pos h32] at h; cases h
      · rw [if_neg h32] at h
        exact .inr (.inr ⟨by omega, h34, h92, h⟩)

theorem row_drop {w : World} {b off : Nat} {zs : List Int} (h : Row w b off zs) (k : Nat) : Row w b (off + k) (zs.drop k) := by
  intro i hi
  have := h (k + i) (by simp at hi; omega)
  rw [← Nat.add_assoc] at this
  rw [this]
  simp

theorem row_later {w w1 : World} {b off : Nat} {zs : List Int} (h : Row w b off zs) (hb : Below w.heap.size w w1) : Row w1 b off zs :=
  fun i hi => cell_later hb (h i hi)

/-- escapeLen, its answer under a name. -/
theorem escapeLen_m (b off n cap m : Nat) (zs : List Int) (w : World) (H : Hid (Pl.elen zs = m)) (hn : Hid (zs.length = n)) (hm : n ≤ 1048576) (hcap : n ≤ cap) (hcap' : cap ≤ 9223372036854775807) (hrow : Hid (Row w b off zs)) :
    Calls Try.prog 20 #[.slice (some ⟨b, off, none⟩) n cap] w fun e w' => e = .returned (.int .i64 (m : Int)) ∧ w' = w :=
  (escapeLen_any b off n cap zs w hn hm hcap hcap' hrow).mono fun _ _ h => ⟨h.1.trans (ret_int H), h.2⟩

set_option maxHeartbeats 1000000 in
/-- (*reader).string. -/
theorem string_any (b off n cap p E : Nat) (esc : Bool) (d : Int) (zs : List Int) (w : World) (HR : Hid (Pl.smod 0 false ((p + 1 : Nat) : Int) (zs.drop (p + 1)) = some ((E : Int), esc))) (HN : Hid (zs.length = n)) (hm : n ≤ 1048576) (hp : p < n)
    (hcap : n ≤ cap) (hcap' : cap ≤ 1048576) (hb : b < w.heap.size) (hrow : Row w b off zs) :
    Calls Try.prog 19 #[.pointer (some ⟨w.heap.size, 0, none⟩)] (w.alloc (.cells #[.slice (some ⟨b, off, none⟩) n cap, .int .i64 (p : Int), .int .i64 d] 38)) fun e w' =>
      p + 1 ≤ E ∧ E < n ∧ e = .returned (.agg #[.slice (some ⟨b, off + (p + 1), none⟩) (E - (p + 1)) (cap - (p + 1)), .bool esc, .bool true]) ∧
      w' = (w.alloc (.cells #[.slice (some ⟨b, off, none⟩) n cap, .int .i64 ((E : Int) + 1), .int .i64 d] 38)).alloc (.cells #[.slice (some ⟨b, off + (p + 1), none⟩) (E - (p + 1)) (cap - (p + 1)), .bool esc, .bool true] 40) := by
  go_enter Try.func19, Try.ntmps19
  go_wp2
  go_loop [4, 5] (fun e i => ∃ (k : Nat) (eb : Bool), p + 1 ≤ k ∧ k ≤ n ∧ i = .int .i64 k ∧ e = .bool eb ∧ Hid (Pl.smod 0 eb k (zs.drop k) = some ((E : Int), esc))) (fun _ i => n + 1 - (intOf i).toNat)
  case atStart => exact ⟨p + 1, false, by omega, by omega, by go_num, rfl, HR⟩
  case round =>
    obtain ⟨k, eb, hk1, hk2, rfl, rfl, hrel⟩ := hrel
    obtain ⟨hlt, hcase⟩ := smod_step HN.out hrel.out
    have hcell := hrow k (by rw [HN.out]; exact hlt)
    have HROW : ∀ o1 o2, Hid (Row ((w.alloc o1).alloc o2) b (off + k) (zs.drop k)) := fun o1 o2 => row_later (row_drop hrow k) (((Below.refl _ _).alloc (Nat.le_refl _) _).alloc (by simp) _)
    have HL : Hid ((zs.drop k).length = n - k) := by show _ = _; simp [HN.out]
    obtain ⟨z, hz⟩ : ∃ z, z = zs.getD k 0 := ⟨_, rfl⟩
    rw [← hz] at hcell hcase
    clear hz hrow hrel HR
    rcases hcase with ⟨h34, hr⟩ | ⟨h92, m, em, em2, em3, em4⟩ | ⟨h32, h34, h92, hr⟩
    · subst h34
      obtain ⟨hE, rfl⟩ := Prod.mk.inj hr
      obtain rfl : E = k := by omega
      clear hr hE HROW HL
      go_wp2
      exact bodyPost_ret (v := .agg #[.slice (some ⟨b, off + (p + 1), none⟩) (E - (p + 1)) (cap - (p + 1)), .bool esc, .bool true]) (by simp [results, Try.results19, go_sem]) rfl ⟨rfl, rfl⟩
    · subst h92
      have H1 : Hid (Pl.smod 0 true ((k + m : Nat) : Int) (zs.drop (k + m)) = some ((E : Int), esc)) := em4
      have H2 : Hid (Pl.elen (zs.drop k) = m) := em
      have hm0 : ((m : Int) == 0) = false := by simp; omega
      clear em4 em
      go_wp2_with (go_at_call 20; refine (escapeLen_m b (off + k) (n - k) (cap - k) m (zs.drop k) _ H2 HL (by omega) (by omega) (by omega) (by exact HROW _ _)).mono ?_; rintro e w' ⟨rfl, rfl⟩)
      go_round
      case rel => exact ⟨k + m, true, by omega, by omega, by go_num, rfl, H1⟩
      case measure => simp [intOf]; omega
    · have H1 : Hid (Pl.smod 0 eb ((k + 1 : Nat) : Int) (zs.drop (k + 1)) = some ((E : Int), esc)) := hr
      have b34 : (z == 34) = false := by simpa using h34
      have b92 : (z == 92) = false := by simpa using h92
      clear hr h34 h92 HROW HL
      go_wp2
      go_round
      case rel => exact ⟨k + 1, eb, by omega, by omega, by go_num, rfl, H1⟩
      case measure => simp [intOf]; omega

end Go.Proofs.Qxb6605556a
