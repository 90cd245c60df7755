/-
  THE WALK OF THE LAW PropVNILabelsAndSplitHorizonByEncapsulation (seat b6003712aD), the slice at a known place.
-/
import Derived.Test.Qxb6003712aDoorLabels
import Derived.Test.Qxb6003712aDoorFixes
namespace Go.Proofs.Qxb6003712aDoor
open Go.RowKit Go.Shelf
set_option linter.unusedVariables false

/-- LabelsHoldVNIs, as a plain contract. -/
theorem labels_any (Pp : Nat) (sv : Value) (cs : List Pl.Com) (L : Bool) (HL : Hid (lhv (tts cs) = L)) (hm : cs.length ≤ 1048576) (hok : Hid (∀ c ∈ cs, c.ok)) (w : World) (hs1 : 1 < w.heap.size)
    (hp : w.cell? ⟨Pp, 3, none⟩ = some sv) (hS : Hid (Sv w.heap.size w sv cs)) (ht : Hid (Tab w)) :
    Calls Tryd.prog 21 #[.pointer (some ⟨Pp, 0, none⟩)] w fun e W' => e = .returned (.bool L) ∧ Below w.heap.size w W' :=
  (callsIn_wide (n := 5)).1 ((labels_in 5 (by omega) Pp sv cs hm hok w hs1 (World.block_lt_of_cell? _ _ hp) hp hS ht).mono fun e W' h => ⟨by rw [h.1, HL.out], h.2⟩)
theorem fixes_any (Pp : Nat) (sv : Value) (cs : List Pl.Com) (L : Bool) (HL : Hid (fsh (tts cs) = L)) (hm : cs.length ≤ 1048576) (hok : Hid (∀ c ∈ cs, c.ok)) (w : World) (hs1 : 1 < w.heap.size)
    (hp : w.cell? ⟨Pp, 3, none⟩ = some sv) (hS : Hid (Sv w.heap.size w sv cs)) (ht : Hid (Tab w)) :
    Calls Tryd.prog 30 #[.pointer (some ⟨Pp, 0, none⟩)] w fun e W' => e = .returned (.bool L) ∧ Below w.heap.size w W' :=
  (callsIn_wide (n := 5)).1 ((fixes_in 5 (by omega) Pp sv cs hm hok w hs1 (World.block_lt_of_cell? _ _ hp) hp hS ht).mono fun e W' h => ⟨by rw [h.1, HL.out], h.2⟩)

theorem be16_T (x y T : Int) (HT : Hid (x * 256 + y = T)) (h0 : 0 ≤ x) (h1 : x ≤ 255) (h2 : 0 ≤ y) (h3 : y ≤ 255) (w : World) :
    Calls Tryd.prog 9 #[.int .u8 x, .int .u8 y] w fun e w' => e = .returned (.int .u16 T) ∧ w' = w :=
  (be16_any x y h0 h1 h2 h3 w).mono fun e w' h => ⟨h.1.trans (ret_int HT), h.2⟩

/-- What the law's own loop has gathered. -/
def Got (ts : List Int) (f a x : Bool) : Prop := f = !ts.isEmpty ∧ a = ts.all vni ∧ x = ts.any fx
theorem Got.more {ts : List Int} {f a x : Bool} (h : Got ts f a x) (t : Int) : Got (ts ++ [t]) true (a && vni t) (x || fx t) := by
  obtain ⟨rfl, rfl, rfl⟩ := h
  exact ⟨by simp, by simp, by simp⟩
theorem Got.end {ts : List Int} {f a x : Bool} (h : Got ts f a x) : lhv ts = (f && a) ∧ fsh ts = (!f || x) := by
  obtain ⟨rfl, rfl, rfl⟩ := h
  exact ⟨rfl, by simp [fsh]⟩

theorem kind_enc (a0 a1 : Int) (h0 : 0 ≤ a1) : Pl.kindI a0 a1 = 2 ↔ a0 = 3 ∧ a1 = 12 := by
  unfold Pl.kindI
  constructor
  · intro h
    by_cases c1 : a0 ≤ 2 ∧ a1 = 2
    · rw [if_pos c1] at h; omega
    · rw [if_neg c1] at h
      by_cases c2 : a0 = 3 ∧ a1 = 12
      · exact c2
      · rw [if_neg c2] at h
        by_cases c3 : a0 = 3 ∧ a1 = 13
        · rw [if_pos c3] at h; omega
        · rw [if_neg c3] at h
          by_cases c4 : a0 = 6 ∧ a1 < 5
          · rw [if_pos c4] at h; omega
          · rw [if_neg c4] at h; omega
  · rintro ⟨rfl, rfl⟩; decide

/-- The ways of a tunnel type through the law's two tests. -/
theorem tt_ways (T : Int) : (T = 8 ∨ T = 9 ∨ T = 12 ∨ T = 19 ∨ T = 10) ∨ (((T == 8) = false ∧ (T == 9) = false ∧ (T == 12) = false ∧ (T == 19) = false ∧ (T == 10) = false) ∧ vni T = false ∧ fx T = false) := by
  by_cases h : T = 8 ∨ T = 9 ∨ T = 12 ∨ T = 19 ∨ T = 10
  · exact .inl h
  · refine .inr ⟨by simp; omega, ?_, ?_⟩
    · simp [vni]; omega
    · simp [fx]; omega

/-- An Attributes value that bears communities alone. -/
def attrs (sv : Value) : Obj := .cells #[.int .u64 0, .int .u64 0, .pointer none, sv, .pointer none, .int .u8 0, .slice none 0 0, .int .u32 0, .int .u32 0] 43
theorem attrs_cell (W : World) (sv : Value) : (W.alloc (attrs sv)).cell? ⟨W.heap.size, 3, none⟩ = some sv := by
  rw [cell_of_row _ _ _ _ _ _ (heap_alloc_new W (attrs sv))]; rfl
theorem Sv.later {W W' : World} {sv : Value} {cs : List Pl.Com} (h : Sv W.heap.size W sv cs) (hb : Below W.heap.size W W') : Sv W'.heap.size W' sv cs := by
  rcases h with h | ⟨g, cap, e, hg, hc⟩
  · exact .inl h
  · exact .inr ⟨g, cap, e, Nat.lt_of_lt_of_le hg hb.size, hc.below hb hg⟩

/-- WHAT LIES WHEN THE ATTRIBUTES ARE MADE, and what is kept of it behind each reader. -/
structure Ready (w : World) (P : Nat) (sv : Value) (cs : List Pl.Com) : Prop where
  size : 1 < w.heap.size
  cell : w.cell? ⟨P, 3, none⟩ = some sv
  row : Sv w.heap.size w sv cs
  tab : Tab w
theorem Ready.later {W W' : World} {P : Nat} {sv : Value} {cs : List Pl.Com} (h : Ready W P sv cs) (hb : Below W.heap.size W W') : Ready W' P sv cs :=
  ⟨Nat.lt_of_lt_of_le h.size hb.size, cell_later hb h.cell, h.row.later hb, h.tab.below hb h.size⟩
theorem Ready.new {W : World} {sv : Value} {cs : List Pl.Com} (hs : 1 < W.heap.size) (hr : Sv W.heap.size W sv cs) (ht : Tab W) : Ready (W.alloc (attrs sv)) W.heap.size sv cs :=
  have hb : Below W.heap.size W (W.alloc (attrs sv)) := (Below.refl _ _).alloc (Nat.le_refl _) _
  ⟨Nat.lt_of_lt_of_le hs hb.size, attrs_cell W sv, hr.later hb, ht.below hb hs⟩

theorem labels_ready {w : World} {P : Nat} {sv : Value} {cs : List Pl.Com} (h : Ready w P sv cs) (L : Bool) (HL : Hid (lhv (tts cs) = L)) (hm : Hid (cs.length ≤ 1048576)) (hok : Hid (∀ c ∈ cs, c.ok)) :
    Calls Tryd.prog 21 #[.pointer (some ⟨P, 0, none⟩)] w fun e W' => e = .returned (.bool L) ∧ Below w.heap.size w W' ∧ Ready W' P sv cs :=
  (labels_any P sv cs L HL hm hok w h.size h.cell h.row h.tab).mono fun e W' hh => ⟨hh.1, hh.2, h.later hh.2⟩
theorem fixes_ready {w : World} {P : Nat} {sv : Value} {cs : List Pl.Com} (h : Ready w P sv cs) (L : Bool) (HL : Hid (fsh (tts cs) = L)) (hm : Hid (cs.length ≤ 1048576)) (hok : Hid (∀ c ∈ cs, c.ok)) :
    Calls Tryd.prog 30 #[.pointer (some ⟨P, 0, none⟩)] w fun e W' => e = .returned (.bool L) ∧ Below w.heap.size w W' ∧ Ready W' P sv cs :=
  (fixes_any P sv cs L HL hm hok w h.size h.cell h.row h.tab).mono fun e W' hh => ⟨hh.1, hh.2, h.later hh.2⟩

set_option maxHeartbeats 4000000 in
/-- The law, the slice at a known place. -/
theorem vni_some (b off n cap : Nat) (cs : List Pl.Com) (w : World) (hn : n ≤ 1048576) (hs1 : 1 < w.heap.size) (HL : Hid (cs.length = n)) (HO : Hid (∀ c ∈ cs, c.ok)) (HC : Hid (Coms w b off cs)) (HT : Hid (Tab w)) :
    Calls Tryd.prog 4 #[.slice (some ⟨b, off, none⟩) n cap] w fun e w' => e = .returned (.bool true) ∧ Below w.heap.size w w' := by
  go_enter Tryd.func4, Tryd.ntmps4
  go_wp2
  go_loopw [3, 4, 5, 6, 7] (fun f a x i c wr => ∃ (k : Nat) (fb ab xb : Bool), k ≤ n ∧ i = .int .i64 k ∧ f = .bool fb ∧ a = .bool ab ∧ x = .bool xb ∧ Hid (Got (tts (cs.take k)) fb ab xb) ∧ Hid (Below w.heap.size w wr)) (fun _ _ _ i _ _ => n - (intOf i).toNat)
  case atStart => exact ⟨0, false, true, false, by omega, rfl, rfl, rfl, rfl, ⟨rfl, rfl, rfl⟩, Below.refl _ _⟩
  case round =>
    obtain ⟨k, fb, ab, xb, hk, rfl, rfl, rfl, rfl, HG, HB⟩ := hrel
    by_cases hlt : k < n
    · obtain ⟨c, hc⟩ : ∃ c, cs[k]? = some c := ⟨cs[k]'(by rw [HL.out]; exact hlt), by simp⟩
      obtain ⟨⟨⟨o0, p0⟩, o1, p1⟩, ⟨o6, p6⟩, o7, p7⟩ := com_ok (HO.out c (List.mem_of_getElem? hc))
      obtain ⟨q0, q1, q2, q3, q4, q5, q6, q7⟩ := (HC.out.later HB.out) k c hc
      have HBA : ∀ o, Hid (Below w.heap.size w (wr.alloc o)) := fun o => HB.out.alloc HB.out.size o
      by_cases h3 : c.a0 = 3
      · have b3 : (c.a0 == 3) = true := by simpa using h3
        by_cases h12 : c.a1 = 12
        · have b12 : (c.a1 == 12) = true := by simpa using h12
          have HY : Hid (tts (cs.take (k + 1)) = tts (cs.take k) ++ [c.a6 * 256 + c.a7]) := tts_take_yes hc ((kind_enc _ _ o1).2 ⟨h3, h12⟩)
          obtain ⟨T, hT⟩ : ∃ T, c.a6 * 256 + c.a7 = T := ⟨_, rfl⟩
          have HG' : Hid (Got (tts (cs.take (k + 1))) true (ab && vni T) (xb || fx T)) := by show Got _ _ _ _; rw [HY.out, hT]; exact HG.out.more T
          have HTT : Hid (c.a6 * 256 + c.a7 = T) := hT
          clear hT h3 h12 hc HY HG HC
          rcases tt_ways T with (rfl | rfl | rfl | rfl | rfl) | ⟨⟨t8, t9, t12, t19, t10⟩, vT, fT⟩
          all_goals
            have h := HG'.out
            first | simp [vT, fT] at h | simp [vni, fx] at h
            have HG2 : Hid _ := h
            clear h HG'
            try clear vT fT
            go_wp2_with (go_at_call 9; refine (be16_T _ _ _ HTT o6 p6 o7 p7 _).mono ?_; rintro e w' ⟨rfl, rfl⟩)
            go_roundw
            case rel => exact ⟨k + 1, _, _, _, by omega, by go_num, rfl, rfl, rfl, HG2, HBA _⟩
            case measure => simp [intOf]; omega
        · have b12 : (c.a1 == 12) = false := by simpa using h12
          have HY : Hid (tts (cs.take (k + 1)) = tts (cs.take k)) := tts_take_no hc (by simpa [Pl.Com.kind] using fun h => h12 ((kind_enc _ _ o1).1 h).2)
          clear h3 h12 hc HC
          go_wp2
          go_roundw
          case rel => exact ⟨k + 1, fb, ab, xb, by omega, by go_num, rfl, rfl, rfl, (show Got _ _ _ _ by rw [HY.out]; exact HG.out), HBA _⟩
          case measure => simp [intOf]; omega
      · have b3 : (c.a0 == 3) = false := by simpa using h3
        have HY : Hid (tts (cs.take (k + 1)) = tts (cs.take k)) := tts_take_no hc (by simpa [Pl.Com.kind] using fun h => h3 ((kind_enc _ _ o1).1 h).1)
        clear h3 hc HC
        go_wp2
        go_roundw
        case rel => exact ⟨k + 1, fb, ab, xb, by omega, by go_num, rfl, rfl, rfl, (show Got _ _ _ _ by rw [HY.out]; exact HG.out), HBA _⟩
        case measure => simp [intOf]; omega
    · have e : cs.take k = cs := List.take_of_length_le (by rw [HL.out]; omega)
      have hG := HG.out
      rw [e] at hG
      obtain ⟨g1, g2⟩ := hG.end
      have HCr : Hid (Coms wr b off cs) := HC.out.later HB.out
      have HTr : Hid (Tab wr) := HT.out.below HB.out hs1
      have hsr : 1 < wr.heap.size := Nat.lt_of_lt_of_le hs1 HB.out.size
      have hm : cs.length ≤ 1048576 := by rw [HL.out]; exact hn
      have Hm : Hid (cs.length ≤ 1048576) := hm
      obtain ⟨V, HV⟩ : ∃ V, Hid (lhv (tts cs) = V) := ⟨_, rfl⟩
      obtain ⟨S, HS⟩ : ∃ S, Hid (fsh (tts cs) = S) := ⟨_, rfl⟩
      have eV : V = (fb && ab) := HV.out.symm.trans g1
      have eS : S = (!fb || xb) := HS.out.symm.trans g2
      clear e hG g1 g2 HG HC HT hm
      cases fb <;> cases ab <;> cases xb
      all_goals
        simp at eV eS
        subst eV
        subst eS
        go_wp2_with fail
        refine (clone_some b off n cap cs wr hn HL HCr).mono ?_
        rintro e W1 ⟨rfl, hb1, hz1, hc1⟩
        have HB1 : Hid (Below w.heap.size w W1) := HB.out.trans (hb1.mono HB.out.size)
        have HT1 : Hid (Tab W1) := HTr.out.below hb1 hsr
        have HR : Hid (Ready (W1.alloc (attrs (.slice (some ⟨wr.heap.size, 0, none⟩) n n))) W1.heap.size (.slice (some ⟨wr.heap.size, 0, none⟩) n n) cs) :=
          Ready.new (by omega) (.inr ⟨wr.heap.size, n, by rw [HL.out], hz1, hc1⟩) HT1.out
        have HB2 : Hid (Below w.heap.size w (W1.alloc (attrs (.slice (some ⟨wr.heap.size, 0, none⟩) n n)))) := HB1.out.alloc HB1.out.size _
        have HS2 : Hid (w.heap.size ≤ (W1.alloc (attrs (.slice (some ⟨wr.heap.size, 0, none⟩) n n))).heap.size) := HB2.out.size
        clear hb1 hc1 HB1 HT1
        go_wp2_with fail
        refine (labels_ready HR.out _ HV Hm HO).mono ?_
        rintro e W3 ⟨rfl, hb3, hr3⟩
        have HR3 : Hid (Ready W3 W1.heap.size (.slice (some ⟨wr.heap.size, 0, none⟩) n n) cs) := hr3
        have HB3 : Hid (Below w.heap.size w W3) := HB2.out.trans (hb3.mono HS2.out)
        clear hb3 hr3 HB2 HS2 HR
        go_wp2_with (first | (go_at_call 30; refine (fixes_ready HR3.out _ HS Hm HO).mono ?_; rintro e W4 ⟨rfl, hb4, hr4⟩; have HB4 : Hid (Below w.heap.size w W4) := HB3.out.trans (hb4.mono HB3.out.size); clear hb4 hr4) | go_in)
        go_ret
        exact ⟨rfl, HB4.out⟩

end Go.Proofs.Qxb6003712aDoor
