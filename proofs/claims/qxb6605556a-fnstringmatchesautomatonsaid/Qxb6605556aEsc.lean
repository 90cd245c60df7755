/-
  THE WALKS OF escModel AND escapeLen (seat b6605556a), over a slice whose cells are known.
-/
import Derived.Test.Qxb6605556aLeaf
namespace Go.Proofs.Qxb6605556a
open Go.RowKit

theorem drop_at (zs : List Int) (k : Nat) (h : k < zs.length) : zs.drop k = zs.getD k 0 :: zs.drop (k + 1) := by
  rw [List.drop_eq_getElem_cons h]; simp [h]

/-- A byte's bounds. -/
def Byte (z : Int) : Prop := 0 ≤ z ∧ z ≤ 255
/-- The cells of a row of bytes. -/
def Row (w : World) (b off : Nat) (zs : List Int) : Prop := ∀ i, i < zs.length → w.cell? ⟨b, off + i, none⟩ = some (.int .u8 (zs.getD i 0))
def Bytes (zs : List Int) : Prop := ∀ i, i < zs.length → Byte (zs.getD i 0)

theorem estep_le (st c : Int) (h1 : 1 ≤ st) (h2 : st ≤ 5) : Pl.estep st c ≤ 5 := by
  unfold Pl.estep
  repeat' split
  all_goals omega

set_option maxHeartbeats 400000 in
/-- escModel. -/
theorem escModel_core (b off n cap : Nat) (zs : List Int) (w : World) (R : Int) (HR : Hid (Pl.emod 1 1 (zs.drop 1) = R)) (HN : Hid (zs.length = n)) (hm : n ≤ 1048576) (hrow : Row w b off zs) :
    Calls Try.prog 15 #[.slice (some ⟨b, off, none⟩) n cap] w fun e w' => e = .returned (.int .i64 R) ∧ w' = w := by
  go_enter Try.func15, Try.ntmps15
  go_wp2
  go_loop [3, 4] (fun s i => ∃ (k : Nat) (st : Int), 1 ≤ k ∧ k ≤ n + 1 ∧ 1 ≤ st ∧ st ≤ 5 ∧ i = .int .i64 k ∧ s = .int .i64 st ∧ Hid (Pl.emod st k (zs.drop k) = R)) (fun _ i => n + 1 - (intOf i).toNat)
  case atStart => exact ⟨1, 1, by omega, by omega, by omega, by omega, rfl, rfl, HR⟩
  case round =>
    obtain ⟨k, st, hk1, hk2, hs1, hs2, rfl, rfl, hrel⟩ := hrel
    by_cases hlt : k < n
    · have hd := drop_at zs k (by rw [HN.out]; exact hlt)
      have hcell := hrow k (by rw [HN.out]; exact hlt)
      obtain ⟨z, hz⟩ : ∃ z, z = zs.getD k 0 := ⟨_, rfl⟩
      rw [← hz] at hd hcell
      have hle := estep_le st z hs1 hs2
      have H1 : Hid (Pl.emod st k (zs.drop k) = if Pl.estep st z < 0 then 0 else if Pl.estep st z = 0 then (k : Int) + 1 else Pl.emod (Pl.estep st z) ((k : Int) + 1) (zs.drop (k + 1))) := by
        show _ = _; rw [hd, Pl.emod]
      clear hd hz hrow
      rcases Int.lt_trichotomy (Pl.estep st z) 0 with h0 | h0 | h0
      · go_wp2_with (go_at_call 18; refine (escStep_any st z hs1 hs2 _).mono ?_; rintro e w' ⟨rfl, rfl⟩)
        go_ret
        exact ⟨ret_int (by rw [← hrel.out, H1.out, if_pos h0]), rfl⟩
      · have h0' : Hid (Pl.estep st z = 0) := h0
        have h0b : (Pl.estep st z == 0) = true := by simpa using h0
        have h0c : ¬ Pl.estep st z < 0 := by omega
        clear h0
        go_wp2_with (go_at_call 18; refine (escStep_any st z hs1 hs2 _).mono ?_; rintro e w' ⟨rfl, rfl⟩)
        go_ret
        exact ⟨ret_int (by rw [← hrel.out, H1.out, if_neg (by omega), if_pos h0'.out]), rfl⟩
      · have h0b : (Pl.estep st z == 0) = false := by simp; omega
        have h0c : ¬ Pl.estep st z < 0 := by omega
        go_wp2_with (go_at_call 18; refine (escStep_any st z hs1 hs2 _).mono ?_; rintro e w' ⟨rfl, rfl⟩)
        go_round
        case rel => exact ⟨k + 1, Pl.estep st z, by omega, by omega, by omega, hle, by go_num, rfl, by show _ = _; rw [← hrel.out, H1.out, if_neg (by omega), if_neg (by omega)]; rfl⟩
        case measure => simp [intOf]; omega
    · go_wp2
      go_ret
      exact ⟨ret_int (by rw [← hrel.out, List.drop_of_length_le (by rw [HN.out]; omega)]; rfl), rfl⟩

theorem escModel_any (b off n cap : Nat) (zs : List Int) (w : World) (hn : zs.length = n) (hm : n ≤ 1048576) (hrow : Row w b off zs) :
    Calls Try.prog 15 #[.slice (some ⟨b, off, none⟩) n cap] w fun e w' => e = .returned (.int .i64 (Pl.elen zs)) ∧ w' = w :=
  escModel_core b off n cap zs w _ (Pl.elen_emod zs).symm hn hm hrow

theorem hx_yes (z : Int) (h : Pl.hx z = true) : (48 ≤ z ∧ z ≤ 57) ∨ (97 ≤ z ∧ z ≤ 102) ∨ (65 ≤ z ∧ z ≤ 70) := by
  simpa [Pl.hx] using h
theorem hx_no (z : Int) (h : Pl.hx z = false) : z < 48 ∨ (57 < z ∧ z < 65) ∨ (70 < z ∧ z < 97) ∨ 102 < z := by
  simp [Pl.hx] at h; omega
theorem sh_yes (z : Int) (h : Pl.sh z = true) : z = 34 ∨ z = 92 ∨ z = 47 ∨ z = 98 ∨ z = 102 ∨ z = 110 ∨ z = 114 ∨ z = 116 := by
  simpa [Pl.sh] using h
theorem sh_no (z : Int) (h : Pl.sh z = false) : (z == 34) = false ∧ (z == 92) = false ∧ (z == 47) = false ∧ (z == 98) = false ∧ (z == 102) = false ∧ (z == 110) = false ∧ (z == 114) = false ∧ (z == 116) = false := by
  simp [Pl.sh] at h; simp; omega

set_option maxHeartbeats 400000 in
/-- escapeLen, the slice shorter than two. -/
theorem escapeLen_short (a : Option Addr) (n cap : Nat) (w : World) (h : n < 2) :
    Calls Try.prog 20 #[.slice a n cap] w fun e w' => e = .returned (.int .i64 0) ∧ w' = w := by
  go_enter Try.func20, Try.ntmps20
  go_wp2
  go_ret
  exact ⟨rfl, rfl⟩

set_option maxHeartbeats 400000 in
/-- escapeLen, a short escape. -/
theorem escapeLen_sh (b off n cap : Nat) (z : Int) (w : World) (h : 2 ≤ n) (hm : n ≤ 1048576) (hz : Pl.sh z = true) (hcell : w.cell? ⟨b, off + 1, none⟩ = some (.int .u8 z)) :
    Calls Try.prog 20 #[.slice (some ⟨b, off, none⟩) n cap] w fun e w' => e = .returned (.int .i64 2) ∧ w' = w := by
  rcases sh_yes z hz with rfl | rfl | rfl | rfl | rfl | rfl | rfl | rfl
  all_goals
    clear hz
    go_enter Try.func20, Try.ntmps20
    go_wp2
    go_ret
    exact ⟨rfl, rfl⟩

set_option maxHeartbeats 400000 in
/-- escapeLen, neither a short escape nor a 'u'. -/
theorem escapeLen_other (b off n cap : Nat) (z : Int) (w : World) (h : 2 ≤ n) (hm : n ≤ 1048576) (hz : Pl.sh z = false) (hu : (z == 117) = false) (hcell : w.cell? ⟨b, off + 1, none⟩ = some (.int .u8 z)) :
    Calls Try.prog 20 #[.slice (some ⟨b, off, none⟩) n cap] w fun e w' => e = .returned (.int .i64 0) ∧ w' = w := by
  obtain ⟨a1, a2, a3, a4, a5, a6, a7, a8⟩ := sh_no z hz
  clear hz
  go_enter Try.func20, Try.ntmps20
  go_wp2
  go_ret
  exact ⟨rfl, rfl⟩

set_option maxHeartbeats 400000 in
/-- escapeLen, a 'u' with too little behind it. -/
theorem escapeLen_u_short (b off n cap : Nat) (w : World) (h : 2 ≤ n) (h6 : n < 6) (hcell : w.cell? ⟨b, off + 1, none⟩ = some (.int .u8 117)) :
    Calls Try.prog 20 #[.slice (some ⟨b, off, none⟩) n cap] w fun e w' => e = .returned (.int .i64 0) ∧ w' = w := by
  go_enter Try.func20, Try.ntmps20
  go_wp2
  go_ret
  exact ⟨rfl, rfl⟩

set_option maxHeartbeats 1000000 in
/-- escapeLen, a 'u' with four cells and more behind it. -/
theorem escapeLen_u (b off n cap : Nat) (zs : List Int) (w : World) (R : Int) (h6 : 6 ≤ n) (hm : n ≤ 1048576) (hcap : n ≤ cap) (hcap' : cap ≤ 9223372036854775807) (HN : Hid (zs.length = n)) (hrow : Row w b off zs)
    (hcell : w.cell? ⟨b, off + 1, none⟩ = some (.int .u8 117))
    (HY : Hid ((∀ j, j < 4 → Pl.hx (zs.getD (2 + j) 0) = true) → 6 = R)) (HF : Hid (∀ j, j < 4 → Pl.hx (zs.getD (2 + j) 0) = false → 0 = R)) :
    Calls Try.prog 20 #[.slice (some ⟨b, off, none⟩) n cap] w fun e w' => e = .returned (.int .i64 R) ∧ w' = w := by
  go_enter Try.func20, Try.ntmps20
  go_wp2
  go_loop [28] (fun i => ∃ k : Nat, k ≤ 4 ∧ i = .int .i64 k ∧ Hid (∀ j, j < k → Pl.hx (zs.getD (2 + j) 0) = true)) (fun i => 4 - (intOf i).toNat)
  case atStart => exact ⟨0, by omega, rfl, fun j hj => by omega⟩
  case round =>
    obtain ⟨k, hk, rfl, hall⟩ := hrel
    by_cases hlt : k < 4
    · have hc := hrow (2 + k) (by rw [HN.out]; omega)
      rw [← Nat.add_assoc] at hc
      cases hx : Pl.hx (zs.getD (2 + k) 0) with
      | true =>
        have rng := hx_yes _ hx
        have HX : Hid (∀ j, j < k + 1 → Pl.hx (zs.getD (2 + j) 0) = true) := fun j hj => by
          by_cases e : j = k
          · rw [e]; exact hx
          · exact hall.out j (by omega)
        obtain ⟨z, hz⟩ : ∃ z, z = zs.getD (2 + k) 0 := ⟨_, rfl⟩
        rw [← hz] at hc rng
        clear hx hz hrow hall
        rcases rng with ⟨r1, r2⟩ | ⟨r1, r2⟩ | ⟨r1, r2⟩
        · have d0 : decide (48 ≤ z) = true := decide_eq_true (by omega)
          have d1 : decide (z ≤ 57) = true := decide_eq_true (by omega)
          have d2 : decide (97 ≤ z) = false := decide_eq_false (by omega)
          have d3 : decide (z ≤ 102) = true := decide_eq_true (by omega)
          have d4 : decide (65 ≤ z) = false := decide_eq_false (by omega)
          have d5 : decide (z ≤ 70) = true := decide_eq_true (by omega)
          clear r1 r2
          go_wp2
          go_round
          case rel => exact ⟨k + 1, by omega, by go_num, HX⟩
          case measure => simp [intOf]; omega
        · have d0 : decide (48 ≤ z) = true := decide_eq_true (by omega)
          have d1 : decide (z ≤ 57) = false := decide_eq_false (by omega)
          have d2 : decide (97 ≤ z) = true := decide_eq_true (by omega)
          have d3 : decide (z ≤ 102) = true := decide_eq_true (by omega)
          have d4 : decide (65 ≤ z) = true := decide_eq_true (by omega)
          have d5 : decide (z ≤ 70) = false := decide_eq_false (by omega)
          clear r1 r2
          go_wp2
          go_round
          case rel => exact ⟨k + 1, by omega, by go_num, HX⟩
          case measure => simp [intOf]; omega
        · have d0 : decide (48 ≤ z) = true := decide_eq_true (by omega)
          have d1 : decide (z ≤ 57) = false := decide_eq_false (by omega)
          have d2 : decide (97 ≤ z) = false := decide_eq_false (by omega)
          have d3 : decide (z ≤ 102) = true := decide_eq_true (by omega)
          have d4 : decide (65 ≤ z) = true := decide_eq_true (by omega)
          have d5 : decide (z ≤ 70) = true := decide_eq_true (by omega)
          clear r1 r2
          go_wp2
          go_round
          case rel => exact ⟨k + 1, by omega, by go_num, HX⟩
          case measure => simp [intOf]; omega
      | false =>
        have rng := hx_no _ hx
        have HX : Hid (0 = R) := HF.out k hlt hx
        obtain ⟨z, hz⟩ : ∃ z, z = zs.getD (2 + k) 0 := ⟨_, rfl⟩
        rw [← hz] at hc rng
        clear hx hz hrow hall
        rcases rng with r1 | ⟨r1, r2⟩ | ⟨r1, r2⟩ | r1
        · have d0 : decide (48 ≤ z) = false := decide_eq_false (by omega)
          have d1 : decide (z ≤ 57) = true := decide_eq_true (by omega)
          have d2 : decide (97 ≤ z) = false := decide_eq_false (by omega)
          have d3 : decide (z ≤ 102) = true := decide_eq_true (by omega)
          have d4 : decide (65 ≤ z) = false := decide_eq_false (by omega)
          have d5 : decide (z ≤ 70) = true := decide_eq_true (by omega)
          clear r1
          go_wp2
          go_ret
          exact ⟨ret_int HX.out, rfl⟩
        · have d0 : decide (48 ≤ z) = true := decide_eq_true (by omega)
          have d1 : decide (z ≤ 57) = false := decide_eq_false (by omega)
          have d2 : decide (97 ≤ z) = false := decide_eq_false (by omega)
          have d3 : decide (z ≤ 102) = true := decide_eq_true (by omega)
          have d4 : decide (65 ≤ z) = false := decide_eq_false (by omega)
          have d5 : decide (z ≤ 70) = true := decide_eq_true (by omega)
          clear r1
          go_wp2
          go_ret
          exact ⟨ret_int HX.out, rfl⟩
        · have d0 : decide (48 ≤ z) = true := decide_eq_true (by omega)
          have d1 : decide (z ≤ 57) = false := decide_eq_false (by omega)
          have d2 : decide (97 ≤ z) = false := decide_eq_false (by omega)
          have d3 : decide (z ≤ 102) = true := decide_eq_true (by omega)
          have d4 : decide (65 ≤ z) = true := decide_eq_true (by omega)
          have d5 : decide (z ≤ 70) = false := decide_eq_false (by omega)
          clear r1
          go_wp2
          go_ret
          exact ⟨ret_int HX.out, rfl⟩
        · have d0 : decide (48 ≤ z) = true := decide_eq_true (by omega)
          have d1 : decide (z ≤ 57) = false := decide_eq_false (by omega)
          have d2 : decide (97 ≤ z) = true := decide_eq_true (by omega)
          have d3 : decide (z ≤ 102) = false := decide_eq_false (by omega)
          have d4 : decide (65 ≤ z) = true := decide_eq_true (by omega)
          have d5 : decide (z ≤ 70) = false := decide_eq_false (by omega)
          clear r1
          go_wp2
          go_ret
          exact ⟨ret_int HX.out, rfl⟩
    · go_wp2
      go_ret
      exact ⟨ret_int (HY.out fun j hj => hall.out j (by omega)), rfl⟩

/-- escapeLen. -/
theorem escapeLen_any (b off n cap : Nat) (zs : List Int) (w : World) (hn : zs.length = n) (hm : n ≤ 1048576) (hcap : n ≤ cap) (hcap' : cap ≤ 9223372036854775807) (hrow : Row w b off zs) :
    Calls Try.prog 20 #[.slice (some ⟨b, off, none⟩) n cap] w fun e w' => e = .returned (.int .i64 (Pl.elen zs)) ∧ w' = w := by
  by_cases h2 : n < 2
  · exact (escapeLen_short _ n cap w h2).mono fun e w' h => ⟨h.1.trans (ret_int (Pl.elen_short zs (by omega)).symm), h.2⟩
  · have hc := hrow 1 (by omega)
    cases hs : Pl.sh (zs.getD 1 0) with
    | true => exact (escapeLen_sh b off n cap _ w (by omega) hm hs hc).mono fun e w' h => ⟨h.1.trans (ret_int (Pl.elen_sh zs (by omega) hs).symm), h.2⟩
    | false =>
      by_cases hu : zs.getD 1 0 = 117
      · by_cases h6 : n < 6
        · exact (escapeLen_u_short b off n cap w (by omega) h6 (by rw [← hu]; exact hc)).mono fun e w' h => ⟨h.1.trans (ret_int (Pl.elen_u_short zs (by omega) hu (by omega)).symm), h.2⟩
        · exact escapeLen_u b off n cap zs w _ (by omega) hm hcap hcap' hn hrow (by rw [← hu]; exact hc) (fun hh => (Pl.elen_u_hex zs (by omega) hu hh).symm) (fun j hj hh => (Pl.elen_u_no zs (by omega) hu j hj hh).symm)
      · exact (escapeLen_other b off n cap _ w (by omega) hm hs (by simpa using hu) hc).mono fun e w' h => ⟨h.1.trans (ret_int (Pl.elen_other zs (by omega) hs hu).symm), h.2⟩

end Go.Proofs.Qxb6605556a
