/-
  THE WALKS OF THE LEAVES of seat b6003712aD: kind, c3wBE16, binary.BigEndian.Uint16, TunnelType.
-/
import Derived.Test.Qxb6003712aDoorRows
import Derived.Test.Qxb6003712aDoorPlain
import Derived.WalkKit
import Derived.WalkSpells
import Derived.WalkLawsBesides
import Derived.Deep.QuietTactic
import Derived.BigQuiet
import Derived.Laws.BitsAllLaws
import Derived.Deep.RegionWith
namespace Go.Proofs.Qxb6003712aDoor
open Go.RowKit
set_option linter.unusedVariables false

theorem ret_int {k : IntKind} {a b : Int} (h : a = b) : Ending.returned (.int k a) = .returned (.int k b) := by rw [h]

/-- The kinds' table lies as the program's text lays it. -/
def Tab (w : World) : Prop := ∀ i : Nat, i < 5 → w.cell? ⟨1, i, none⟩ = some (.int .u8 ((i : Int) + 4))

theorem Tab.below {w w' : World} {B : Nat} (h : Tab w) (hb : Below B w w') (hB : 1 < B) : Tab w' := fun i hi => (hb.cell (p := ⟨1, i, none⟩) hB).trans (h i hi)

set_option maxHeartbeats 1000000 in
/-- (ExtCommunity).kind. -/
theorem kind_any (a0 a1 a2 a3 a4 a5 a6 a7 : Int) (h0 : 0 ≤ a0) (k0 : a0 ≤ 255) (h1 : 0 ≤ a1) (k1 : a1 ≤ 255) (w : World) (hs : 1 < w.heap.size) (ht : Tab w) :
    Calls Tryd.prog 23 #[.agg #[.int .u8 a0, .int .u8 a1, .int .u8 a2, .int .u8 a3, .int .u8 a4, .int .u8 a5, .int .u8 a6, .int .u8 a7]] w fun e w' =>
      e = .returned (.int .u8 (Pl.kindI a0 a1)) ∧ w' = w.alloc (.cells #[.int .u8 a0, .int .u8 a1, .int .u8 a2, .int .u8 a3, .int .u8 a4, .int .u8 a5, .int .u8 a6, .int .u8 a7] 45) := by
  have HT : Hid (Tab w) := ht
  clear ht
  rcases Pl.kind_ways a0 a1 with ⟨⟨c1, c2, c3⟩, d1, e⟩ | ⟨⟨c1, c2, c3⟩, d1, e⟩ | ⟨⟨c1, c2, c3⟩, d1, e⟩ | ⟨⟨c1, c2, c3⟩, ⟨d1, d2⟩, e⟩ | ⟨⟨c1, c2, c3⟩, ⟨d1, d2⟩, e⟩ | ⟨⟨c1, c2, c3⟩, ⟨d1, d2⟩, e⟩ | ⟨⟨c1, c2, c3⟩, d1, e⟩ | ⟨⟨c1, c2, c3⟩, e⟩
  case inr.inr.inr.inr.inr.inl =>
    have E : Hid (Pl.kindI a0 a1 = a1 + 4) := e
    clear e
    obtain ⟨i, rfl⟩ := Int.eq_ofNat_of_zero_le h1
    have hc := HT.out i (by omega)
    go_enter Tryd.func23, Tryd.ntmps23
    go_wp2
    go_ret
    exact ⟨ret_int E.out.symm, rfl⟩
  all_goals
    have E : Hid _ := e
    clear e
    go_enter Tryd.func23, Tryd.ntmps23
    go_wp2
    go_ret
    exact ⟨ret_int E.out.symm, rfl⟩

theorem or16 (x y : Int) (h0 : 0 ≤ x) (h1 : x ≤ 255) (h2 : 0 ≤ y) (h3 : y ≤ 255) : bits .or .u16 (x * 256) y = x * 256 + y := by
  rw [u16_or (x * 256) y (by omega) (by omega) h2 (by omega)]
  obtain ⟨x, rfl⟩ := Int.eq_ofNat_of_zero_le h0
  obtain ⟨y, rfl⟩ := Int.eq_ofNat_of_zero_le h2
  have e : ((x : Int) * 256).toNat = 2 ^ 8 * x := by omega
  have e' : ((y : Int)).toNat = y := by omega
  rw [e, e', ← Nat.two_pow_add_eq_or_of_lt (show y < 2 ^ 8 by omega)]
  omega
theorem or16' (x y : Int) (h0 : 0 ≤ x) (h1 : x ≤ 255) (h2 : 0 ≤ y) (h3 : y ≤ 255) : bits .or .u16 y (x * 256) = x * 256 + y := by
  rw [u16_or y (x * 256) h2 (by omega) (by omega) (by omega)]
  obtain ⟨x, rfl⟩ := Int.eq_ofNat_of_zero_le h0
  obtain ⟨y, rfl⟩ := Int.eq_ofNat_of_zero_le h2
  have e : ((x : Int) * 256).toNat = 2 ^ 8 * x := by omega
  have e' : ((y : Int)).toNat = y := by omega
  rw [e, e', Nat.or_comm, ← Nat.two_pow_add_eq_or_of_lt (show y < 2 ^ 8 by omega)]
  omega

set_option maxHeartbeats 400000 in
/-- c3wBE16. -/
theorem be16_any (x y : Int) (h0 : 0 ≤ x) (h1 : x ≤ 255) (h2 : 0 ≤ y) (h3 : y ≤ 255) (w : World) :
    Calls Tryd.prog 9 #[.int .u8 x, .int .u8 y] w fun e w' => e = .returned (.int .u16 (x * 256 + y)) ∧ w' = w := by
  have e := or16 x y h0 h1 h2 h3
  go_enter Tryd.func9, Tryd.ntmps9
  go_wp2
  go_ret
  exact ⟨rfl, rfl⟩

set_option maxHeartbeats 400000 in
/-- binary.BigEndian.Uint16. -/
theorem uint16_any (b o n cap : Nat) (x y : Int) (h0 : 0 ≤ x) (h1 : x ≤ 255) (h2 : 0 ≤ y) (h3 : y ≤ 255) (w : World) (hn : 2 ≤ n) (hn' : n ≤ 1048576) (hx : w.cell? ⟨b, o, none⟩ = some (.int .u8 x)) (hy : w.cell? ⟨b, o + 1, none⟩ = some (.int .u8 y)) :
    Calls Tryd.prog 24 #[.agg #[], .slice (some ⟨b, o, none⟩) n cap] w fun e w' => e = .returned (.int .u16 (x * 256 + y)) ∧ ∃ q, w' = (w.alloc (.cells #[] 82)).drewN q := by
  have e := or16' x y h0 h1 h2 h3
  have i1 : (1 : Int) < (n : Int) := by omega
  have i0 : (0 : Int) < (n : Int) := by omega
  have hb : b < w.heap.size := World.block_lt_of_cell? _ _ hx
  go_enter Tryd.func24, Tryd.ntmps24
  go_wp2
  go_quiet (fail)
  go_wp2
  go_ret
  exact ⟨rfl, _, rfl⟩

set_option maxHeartbeats 1000000 in
/-- (ExtCommunity).TunnelType. -/
theorem tunnel_yes (a0 a1 a2 a3 a4 a5 a6 a7 : Int) (h0 : 0 ≤ a0) (k0 : a0 ≤ 255) (h1 : 0 ≤ a1) (k1 : a1 ≤ 255) (h6 : 0 ≤ a6) (k6 : a6 ≤ 255) (h7 : 0 ≤ a7) (k7 : a7 ≤ 255) (w : World) (hs : 1 < w.heap.size) (ht : Tab w) (hk : Pl.kindI a0 a1 = 2) :
    Calls Tryd.prog 8 #[.agg #[.int .u8 a0, .int .u8 a1, .int .u8 a2, .int .u8 a3, .int .u8 a4, .int .u8 a5, .int .u8 a6, .int .u8 a7]] w fun e w' =>
      e = .returned (.tuple #[.int .u16 (a6 * 256 + a7), .bool true]) ∧ Below w.heap.size w w' := by
  have HT : ∀ o, Hid (Tab (w.alloc o)) := fun o => ht.below ((Below.refl w.heap.size w).alloc (Nat.le_refl _) o) hs
  go_enter Tryd.func8, Tryd.ntmps8
  go_wp2_with (go_at_call 23; refine (kind_any a0 a1 a2 a3 a4 a5 a6 a7 h0 k0 h1 k1 _ (by simp; omega) (by exact HT _)).mono ?_; rintro e w' ⟨rfl, rfl⟩)
  go_region_with (go_at_call 24; refine (uint16_any _ _ _ _ a6 a7 h6 k6 h7 k7 _ (by omega) (by omega) (by simp [go_sem]) (by simp [go_sem])).mono ?_; rintro e w' ⟨rfl, q, rfl⟩)
  go_wp2
  go_ret2
  exact ⟨rfl, below_drewN ((((Below.refl _ _).alloc (Nat.le_refl _) _).alloc (by simp) _).alloc (by simp; omega) _) _⟩

set_option maxHeartbeats 1000000 in
/-- (ExtCommunity).TunnelType, of another kind. -/
theorem tunnel_no (a0 a1 a2 a3 a4 a5 a6 a7 : Int) (h0 : 0 ≤ a0) (k0 : a0 ≤ 255) (h1 : 0 ≤ a1) (k1 : a1 ≤ 255) (w : World) (hs : 1 < w.heap.size) (ht : Tab w) (hk : (Pl.kindI a0 a1 == 2) = false) :
    Calls Tryd.prog 8 #[.agg #[.int .u8 a0, .int .u8 a1, .int .u8 a2, .int .u8 a3, .int .u8 a4, .int .u8 a5, .int .u8 a6, .int .u8 a7]] w fun e w' =>
      e = .returned (.tuple #[.int .u16 0, .bool false]) ∧ Below w.heap.size w w' := by
  have HT : ∀ o, Hid (Tab (w.alloc o)) := fun o => ht.below ((Below.refl w.heap.size w).alloc (Nat.le_refl _) o) hs
  have hk' : (Pl.kindI a0 a1 != 2) = true := by simp [bne, hk]
  go_enter Tryd.func8, Tryd.ntmps8
  go_wp2_with (go_at_call 23; refine (kind_any a0 a1 a2 a3 a4 a5 a6 a7 h0 k0 h1 k1 _ (by simp; omega) (by exact HT _)).mono ?_; rintro e w' ⟨rfl, rfl⟩)
  go_ret2
  exact ⟨rfl, ((Below.refl _ _).alloc (Nat.le_refl _) _).alloc (by simp) _⟩

end Go.Proofs.Qxb6003712aDoor
