/-
  THE WALK OF ZZString (seat b6605556a), where the string automaton comes to an end.
-/
import Derived.Test.Qxb6605556aString
import Derived.Deep.QuietTactic
import Derived.BigQuiet
namespace Go.Proofs.Qxb6605556a
open Go.RowKit

set_option maxHeartbeats 1000000 in
/-- ZZString. -/
theorem zzString_any (b off n cap p E : Nat) (esc : Bool) (d : Int) (zs : List Int) (w : World) (HR : Hid (Pl.smod 0 false ((p + 1 : Nat) : Int) (zs.drop (p + 1)) = some ((E : Int), esc))) (HN : Hid (zs.length = n)) (hm : n ≤ 1048576) (hp : p < n)
    (hcap : n ≤ cap) (hcap' : cap ≤ 1048576) (hb : b < w.heap.size) (hrow : Hid (Row w b off zs)) :
    Calls Try.prog 12 #[.slice (some ⟨b, off, none⟩) n cap, .int .i64 (p : Int), .int .i64 d] w fun e w' =>
      e = .returned (.tuple #[.slice (some ⟨b, off + (p + 1), none⟩) (E - (p + 1)) (cap - (p + 1)), .bool esc, .bool true, .int .i64 ((E : Int) + 1), .int .i64 d]) ∧ Below w.heap.size w w' := by
  go_enter Try.func12, Try.ntmps12
  go_wp2_with (go_at_call 19; refine (string_any b off n cap p E esc d zs w HR HN hm hp hcap hcap' hb hrow).mono ?_; rintro e w' ⟨_, _, rfl, rfl⟩)
  go_quiet (fail)
  go_wp2
  refine bodyPost_ret (v := .tuple #[.slice (some ⟨b, off + (p + 1), none⟩) (E - (p + 1)) (cap - (p + 1)), .bool esc, .bool true, .int .i64 ((E : Int) + 1), .int .i64 d]) (by simp [results, Try.results12, go_sem]) rfl ⟨rfl, ?_⟩
  exact below_drewN ((((Below.refl _ _).alloc (Nat.le_refl _) _).alloc (by simp) _).alloc (by simp; omega) _) _

end Go.Proofs.Qxb6605556a
