/-
  THE WALK OF THE LAW PropVNILabelsAndSplitHorizonByEncapsulation (seat b6003712aD): every slice.
-/
import Derived.Test.Qxb6003712aDoorVni
namespace Go.Proofs.Qxb6003712aDoor
open Go.RowKit Go.Shelf
set_option linter.unusedVariables false

set_option maxHeartbeats 400000 in
/-- Where the law does not look. -/
theorem vni_big (a : Option Addr) (n cap : Nat) (w : World) (hn : 1048576 < n) (hm : n ≤ 9223372036854775807) :
    Calls Tryd.prog 4 #[.slice a n cap] w fun e w' => e = .returned (.bool true) ∧ Below w.heap.size w w' := by
  go_enter Tryd.func4, Tryd.ntmps4
  go_wp2
  go_ret
  exact ⟨rfl, Below.refl _ _⟩

set_option maxHeartbeats 1000000 in
/-- An empty slice that is not nil. -/
theorem vni_zero (x : Addr) (cap : Nat) (w : World) (hs1 : 1 < w.heap.size) (HT : Hid (Tab w)) :
    Calls Tryd.prog 4 #[.slice (some x) 0 cap] w fun e w' => e = .returned (.bool true) ∧ Below w.heap.size w w' := by
  have HV : Hid (lhv (tts []) = false) := rfl
  have HS : Hid (fsh (tts []) = true) := rfl
  have Hm : Hid (([] : List Pl.Com).length ≤ 1048576) := Nat.zero_le _
  have HO : Hid (∀ c ∈ ([] : List Pl.Com), c.ok) := fun c hc => by cases hc
  go_enter Tryd.func4, Tryd.ntmps4
  go_wp2
  refine wp_loop_rounds 1 ?_
  rw [rounds_succ]
  go_wp2_with fail
  refine (clone_zero x cap w).mono ?_
  rintro e W1 ⟨rfl, hb1, hz1⟩
  have HR : Hid (Ready (W1.alloc (attrs (.slice (some ⟨w.heap.size, 0, none⟩) 0 0))) W1.heap.size (.slice (some ⟨w.heap.size, 0, none⟩) 0 0) []) :=
    Ready.new (by omega) (.inr ⟨w.heap.size, 0, rfl, hz1, fun k c h => by simp at h⟩) (HT.out.below hb1 hs1)
  have HB2 : Hid (Below w.heap.size w (W1.alloc (attrs (.slice (some ⟨w.heap.size, 0, none⟩) 0 0)))) := hb1.alloc hb1.size _
  have HS2 : Hid (w.heap.size ≤ (W1.alloc (attrs (.slice (some ⟨w.heap.size, 0, none⟩) 0 0))).heap.size) := HB2.out.size
  clear hb1
  go_wp2_with fail
  refine (labels_ready HR.out _ HV Hm HO).mono ?_
  rintro e W3 ⟨rfl, hb3, hr3⟩
  have HR3 : Hid (Ready W3 W1.heap.size (.slice (some ⟨w.heap.size, 0, none⟩) 0 0) []) := hr3
  have HB3 : Hid (Below w.heap.size w W3) := HB2.out.trans (hb3.mono HS2.out)
  clear hb3 hr3 HB2 HS2 HR
  go_wp2_with (first | (go_at_call 30; refine (fixes_ready HR3.out _ HS Hm HO).mono ?_; rintro e W4 ⟨rfl, hb4, hr4⟩; have HB4 : Hid (Below w.heap.size w W4) := HB3.out.trans (hb4.mono HB3.out.size); clear hb4 hr4) | go_in)
  go_ret
  exact ⟨rfl, HB4.out⟩

set_option maxHeartbeats 1000000 in
/-- The nil slice. -/
theorem vni_nil (w : World) (hs1 : 1 < w.heap.size) (HT : Hid (Tab w)) :
    Calls Tryd.prog 4 #[.slice none 0 0] w fun e w' => e = .returned (.bool true) ∧ Below w.heap.size w w' := by
  have HV : Hid (lhv (tts []) = false) := rfl
  have HS : Hid (fsh (tts []) = true) := rfl
  have Hm : Hid (([] : List Pl.Com).length ≤ 1048576) := Nat.zero_le _
  have HO : Hid (∀ c ∈ ([] : List Pl.Com), c.ok) := fun c hc => by cases hc
  have HR : Hid (Ready (w.alloc (attrs (.slice none 0 0))) w.heap.size (.slice none 0 0) []) := Ready.new hs1 (.inl ⟨rfl, rfl⟩) HT.out
  have HB2 : Hid (Below w.heap.size w (w.alloc (attrs (.slice none 0 0)))) := (Below.refl _ _).alloc (Nat.le_refl _) _
  have HS2 : Hid (w.heap.size ≤ (w.alloc (attrs (.slice none 0 0))).heap.size) := HB2.out.size
  go_enter Tryd.func4, Tryd.ntmps4
  go_wp2
  refine wp_loop_rounds 1 ?_
  rw [rounds_succ]
  go_wp2_with fail
  refine (clone_nil w).mono ?_
  rintro e W1 ⟨rfl, rfl⟩
  go_wp2_with fail
  refine (labels_ready HR.out _ HV Hm HO).mono ?_
  rintro e W3 ⟨rfl, hb3, hr3⟩
  have HR3 : Hid (Ready W3 _ (.slice none 0 0) []) := hr3
  have HB3 : Hid (Below _ _ W3) := HB2.out.trans (hb3.mono HS2.out)
  clear hb3 hr3 HB2 HS2 HR
  go_wp2_with (first | (go_at_call 30; refine (fixes_ready HR3.out _ HS Hm HO).mono ?_; rintro e W4 ⟨rfl, hb4, hr4⟩; have HB4 : Hid (Below _ _ W4) := HB3.out.trans (hb4.mono HB3.out.size); clear hb4 hr4) | go_in)
  go_ret
  exact ⟨rfl, HB4.out⟩

/-- WHAT A LAW IS TOLD OF A SLICE OF COMMUNITIES THAT CAME IN: it is nil; or it is empty; or it lies at a known place. -/
def IsComs (w : World) (a : Option Addr) (n cap : Nat) (cs : List Pl.Com) : Prop :=
  cs.length = n ∧ (∀ c ∈ cs, c.ok) ∧ n ≤ maxLen ∧ ((a = none ∧ n = 0 ∧ cap = 0) ∨ (∃ x, a = some x ∧ n = 0) ∨ ∃ b off, a = some ⟨b, off, none⟩ ∧ Coms w b off cs)

/-- THE LAW. -/
theorem vni_any (a : Option Addr) (n cap : Nat) (cs : List Pl.Com) (w : World) (hs1 : 1 < w.heap.size) (ht : Tab w) (h : IsComs w a n cap cs) :
    Calls Tryd.prog 4 #[.slice a n cap] w fun e w' => e = .returned (.bool true) ∧ Below w.heap.size w w' := by
  obtain ⟨hl, hok, hm, h⟩ := h
  unfold maxLen at hm
  by_cases hbig : 1048576 < n
  · exact vni_big a n cap w hbig hm
  · rcases h with ⟨rfl, rfl, rfl⟩ | ⟨x, rfl, rfl⟩ | ⟨b, off, rfl, hc⟩
    · exact vni_nil w hs1 ht
    · exact vni_zero x cap w hs1 ht
    · exact vni_some b off n cap cs w (by omega) hs1 hl hok hc ht

end Go.Proofs.Qxb6003712aDoor
