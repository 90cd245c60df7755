/-
  OtherCommunities (seat b6003712aD).
-/
import Derived.Test.Qxb6003712aDoorFirst
namespace Go.Proofs.Qxb6003712aDoor
open Go.RowKit
set_option linter.unusedVariables false

/-- The communities of no kind that is read. -/
def oth (cs : List Pl.Com) : List Pl.Com := cs.filter fun c => c.kind == 0
theorem oth_yes {cs : List Pl.Com} {k : Nat} {c : Pl.Com} (h : cs[k]? = some c) (hk : (c.kind == 0) = true) : oth (cs.take (k + 1)) = oth (cs.take k) ++ [c] := by
  rw [List.take_add_one, h]
  simp [oth, List.filter_append, hk]
theorem oth_no {cs : List Pl.Com} {k : Nat} {c : Pl.Com} (h : cs[k]? = some c) (hk : (c.kind == 0) = false) : oth (cs.take (k + 1)) = oth (cs.take k) := by
  rw [List.take_add_one, h]
  simp [oth, List.filter_append, hk]
theorem oth_len (cs : List Pl.Com) (k : Nat) : (oth (cs.take k)).length ≤ k := by
  unfold oth
  exact Nat.le_trans (List.length_filter_le _ _) (List.length_take_le _ _)

def flat (os : List Pl.Com) : List Value := os.flatMap Com8
theorem flat_snoc (os : List Pl.Com) (c : Pl.Com) : flat (os ++ [c]) = flat os ++ Com8 c := by simp [flat]
theorem flat_at : ∀ (os : List Pl.Com) (k : Nat) (c : Pl.Com) (j : Nat), os[k]? = some c → j < 8 → (flat os)[k * 8 + j]? = (Com8 c)[j]?
  | [], k, c, j, h, _ => by simp at h
  | d :: os, 0, c, j, h, hj => by
    simp at h
    subst h
    rw [flat, List.flatMap_cons, Nat.zero_mul, Nat.zero_add, List.getElem?_append_left (show j < (Com8 d).length from hj)]
  | d :: os, k + 1, c, j, h, hj => by
    have e : (Com8 d).length = 8 := rfl
    rw [flat, List.flatMap_cons, List.getElem?_append_right (by rw [e]; omega), e, show (k + 1) * 8 + j - 8 = k * 8 + j by omega]
    exact flat_at os k c j (by simpa using h) hj

theorem sv_own {w : World} {base : Nat} {v : Value} {os : List Pl.Com} (h : w.ownsRow base 45 8 v os.length (flat os)) : Sv w.heap.size w v os := by
  have h' := h
  rcases h with ⟨hl, ⟨rfl, h0⟩ | ⟨g, cap, cur, rfl, hb, hg, hc, hm, hs, ht⟩⟩
  · exact .inl ⟨rfl, List.length_eq_zero_iff.1 h0⟩
  · refine .inr ⟨g, cap, rfl, (Array.getElem?_eq_some_iff.1 hg).1, fun k c hk => ?_⟩
    have hlt : k < os.length := (List.getElem?_eq_some_iff.1 hk).1
    have at' : ∀ j, j < 8 → w.cell? ⟨g, 0 + k * 8 + j, none⟩ = (Com8 c)[j]? := fun j hj => by
      rw [Nat.zero_add, h'.cellAt (k * 8 + j) (by omega)]
      exact flat_at os k c j hk hj
    exact ⟨at' 0 (by omega), at' 1 (by omega), at' 2 (by omega), at' 3 (by omega), at' 4 (by omega), at' 5 (by omega), at' 6 (by omega), at' 7 (by omega)⟩

theorem own_base {w : World} {base : Nat} {e : TypeId} {size n : Nat} {v : Value} {xs : List Value} (h : w.ownsRow base e size v n xs) : ∀ k, v.ownBlock = some k → base ≤ k := by
  intro k hk
  rcases h.2 with ⟨rfl, _⟩ | ⟨g, cap, cur, rfl, hb, _⟩
  · cases hk
  · simp [Value.ownBlock] at hk; omega

theorem zero45 : ∃ i0 z, Tryd.prog.info? 45 = some i0 ∧ i0.zero = some z ∧ i0.size = 8 ∧ i0.bytes = 8 ∧ z.cells.size = 8 := by
  obtain ⟨i0, hi, hzz⟩ := Option.map_eq_some_iff.1 Tryd.info45
  obtain ⟨hz1, hz2⟩ := Prod.mk.inj hzz
  have e : (Tryd.prog.info? 45).map (fun i => i.zero.map fun z => z.cells.size) = some (some 8) := by kernel_rfl
  rw [hi] at e
  simp at e
  obtain ⟨z, hz, hs⟩ := e
  exact ⟨i0, z, hi, hz, hz1, hz2, hs⟩

theorem new8 (W : World) (c : Pl.Com) (g : Nat) (hg : W.heap.size = g) : ∀ j u, (Com8 c)[j]? = some u → (W.alloc (.cells #[.int .u8 c.a0, .int .u8 c.a1, .int .u8 c.a2, .int .u8 c.a3, .int .u8 c.a4, .int .u8 c.a5, .int .u8 c.a6, .int .u8 c.a7] 45)).cell? (Addr.add ⟨g, 0, none⟩ j) = some u := by
  intro j u hj
  subst hg
  rw [Go.WideShapes.add_plain, Nat.zero_add, cell_of_row _ _ _ _ _ _ (heap_alloc_new W _)]
  simpa [Com8] using hj
theorem com8_one (c : Pl.Com) : ∀ u ∈ Com8 c, u.oneCell' = true := by
  intro u hu
  simp only [Com8, List.mem_cons, List.not_mem_nil, or_false] at hu
  rcases hu with rfl | rfl | rfl | rfl | rfl | rfl | rfl | rfl <;> rfl

set_option maxHeartbeats 4000000 in
/-- OtherCommunities, a slice that is not nil. -/
theorem other_some (P g n cap : Nat) (cs : List Pl.Com) (w : World) (hs1 : 1 < w.heap.size) (hn : n ≤ 1048576) (hP : w.cell? ⟨P, 3, none⟩ = some (.slice (some ⟨g, 0, none⟩) n cap)) (HL : Hid (cs.length = n)) (HO : Hid (∀ d ∈ cs, d.ok)) (HC : Hid (Coms w g 0 cs)) (HT : Hid (Tab w)) :
    Calls Tryd.prog 10 #[.pointer (some ⟨P, 0, none⟩)] w fun e w' => ∃ v, e = .returned v ∧ Below w.heap.size w w' ∧ Sv w'.heap.size w' v (oth cs) := by
  have hPw : P < w.heap.size := World.block_lt_of_cell? _ _ hP
  obtain ⟨i0, z, hi, hz0, hz1, hz2, hz3⟩ := zero45
  go_enter Tryd.func10, Tryd.ntmps10
  go_wp2
  go_loopw [3, 11] (fun v i wr => ∃ k : Nat, k ≤ n ∧ i = .int .i64 k ∧ Hid (wr.ownsRow w.heap.size 45 8 v (oth (cs.take k)).length (flat (oth (cs.take k)))) ∧ Hid (Below w.heap.size w wr)) (fun _ i _ => n - (intOf i).toNat)
  case atStart => exact ⟨0, by omega, rfl, World.ownsRow_nil _ _ _ _, Below.refl _ _⟩
  case round =>
    obtain ⟨k, hk, rfl, HW, HB⟩ := hrel
    by_cases hlt : k < n
    · obtain ⟨c, hc⟩ : ∃ c, cs[k]? = some c := ⟨cs[k]'(by rw [HL.out]; exact hlt), by simp⟩
      obtain ⟨⟨⟨o0, p0⟩, o1, p1⟩, _⟩ := com_ok (HO.out c (List.mem_of_getElem? hc))
      have hA := (HC.out.later HB.out) k c hc
      have hbw : g < wr.heap.size := hA.lt
      obtain ⟨q0, q1, q2, q3, q4, q5, q6, q7⟩ := hA
      simp only [Nat.zero_add] at q0 q1 q2 q3 q4 q5 q6 q7
      have HTr : Hid (Tab wr) := HT.out.below HB.out hs1
      have hsr : 1 < wr.heap.size := Nat.lt_of_lt_of_le hs1 HB.out.size
      have HA : ∀ o, Hid (Tab (wr.alloc o)) := fun o => HTr.out.below ((Below.refl wr.heap.size wr).alloc (Nat.le_refl _) o) hsr
      have hlen := oth_len cs k
      cases hkd : (c.kind == 0) with
      | true =>
        have hk2 : (Pl.kindI c.a0 c.a1 == 0) = true := hkd
        have HY : Hid (oth (cs.take (k + 1)) = oth (cs.take k) ++ [c]) := oth_yes hc hkd
        obtain ⟨os, hos⟩ : ∃ os, os = oth (cs.take k) := ⟨_, rfl⟩
        rw [← hos] at HW HY hlen
        clear hkd hc hos HTr HC
        go_wp2_with fail
        refine (kind_any c.a0 c.a1 c.a2 c.a3 c.a4 c.a5 c.a6 c.a7 o0 p0 o1 p1 _ (by simp; omega) (by exact HA _)).mono ?_
        rintro e w' ⟨rfl, rfl⟩
        go_wp2_with (at_builtin; refine wpList_append_own _ rfl _ _ 22 rfl w.heap.size 45 i0 z 8 8 Tryd.underlying22 hi hz0 hz1 hz2 hz3 (by decide) _ os.length (flat os) rfl ?c0 ⟨wr.heap.size + 1 + 1, 0, none⟩ 1 1 (Com8 c) rfl rfl ?c1 ?c2 ?c3 ?c4 ?c5 ?_)
        case c0 => exact ((HW.out.alloc _).alloc _).alloc _
        case c1 => exact new8 _ c _ (by simp)
        case c2 => exact com8_one c
        case c3 => unfold maxLen; omega
        case c4 => omega
        case c5 => have := HB.out.size; simp; omega
        · intro v' w1 hown' hgrow _
          have hsz := HB.out.size
          have HW2 : Hid (w1.ownsRow w.heap.size 45 8 v' (oth (cs.take (k + 1))).length (flat (oth (cs.take (k + 1))))) := by
            show World.ownsRow _ _ _ _ _ _ _
            rw [HY.out, flat_snoc, List.length_append]
            exact hown'
          have HB2 : Hid (Below w.heap.size w w1) :=
            (((HB.out.alloc hsz _).alloc (by simp; omega) _).alloc (by simp; omega) _).grown hgrow (by simp; omega) (own_base HW.out)
          clear hown' hgrow HW HB HY
          go_wp2
          go_roundw
          case rel => exact ⟨k + 1, by omega, by go_num, HW2, HB2⟩
          case measure => simp [intOf]; omega
      | false =>
        have hk2 : (Pl.kindI c.a0 c.a1 == 0) = false := hkd
        have HY : Hid (oth (cs.take (k + 1)) = oth (cs.take k)) := oth_no hc hkd
        have HW2 : ∀ o o', Hid (((wr.alloc o).alloc o').ownsRow w.heap.size 45 8 u3 (oth (cs.take (k + 1))).length (flat (oth (cs.take (k + 1))))) := fun o o' => by
          show World.ownsRow _ _ _ _ _ _ _
          rw [HY.out]
          exact (HW.out.alloc _).alloc _
        have HB2 : ∀ o o', Hid (Below w.heap.size w ((wr.alloc o).alloc o')) := fun o o' => (HB.out.alloc HB.out.size o).alloc (by have := HB.out.size; simp; omega) o'
        clear hkd hc HTr HC HW HB HY
        go_wp2_with (go_at_call 23; refine (kind_any c.a0 c.a1 c.a2 c.a3 c.a4 c.a5 c.a6 c.a7 o0 p0 o1 p1 _ (by simp; omega) (by exact HA _)).mono ?_; rintro e w' ⟨rfl, rfl⟩)
        go_roundw
        case rel => exact ⟨k + 1, by omega, by go_num, HW2 _ _, HB2 _ _⟩
        case measure => simp [intOf]; omega
    · go_wp2
      go_ret
      have e : cs.take k = cs := List.take_of_length_le (by rw [HL.out]; omega)
      have hw := HW.out
      rw [e] at hw
      exact ⟨_, rfl, HB.out, sv_own hw⟩

set_option maxHeartbeats 1000000 in
/-- OtherCommunities, the nil slice. -/
theorem other_nil (P : Nat) (w : World) (hP : w.cell? ⟨P, 3, none⟩ = some (.slice none 0 0)) :
    Calls Tryd.prog 10 #[.pointer (some ⟨P, 0, none⟩)] w fun e w' => ∃ v, e = .returned v ∧ Below w.heap.size w w' ∧ Sv w'.heap.size w' v [] := by
  go_enter Tryd.func10, Tryd.ntmps10
  go_wp2
  refine wp_loop_rounds 1 ?_
  rw [rounds_succ]
  go_wp2
  go_ret
  exact ⟨_, rfl, Below.refl _ _, .inl ⟨rfl, rfl⟩⟩

/-- OtherCommunities. -/
theorem other_ready {w : World} {P : Nat} {sv : Value} {cs : List Pl.Com} (h : Ready w P sv cs) (hm : Hid (cs.length ≤ 1048576)) (HO : Hid (∀ d ∈ cs, d.ok)) :
    Calls Tryd.prog 10 #[.pointer (some ⟨P, 0, none⟩)] w fun e w' => ∃ v, e = .returned v ∧ Below w.heap.size w w' ∧ Sv w'.heap.size w' v (oth cs) := by
  rcases h.row with ⟨rfl, rfl⟩ | ⟨g, cap, rfl, _, hc⟩
  · exact other_nil P w h.cell
  · exact other_some P g cs.length cap cs w h.size hm h.cell rfl HO hc h.tab

end Go.Proofs.Qxb6003712aDoor
