/-
  c3wFirst and (*Attributes).first (seat b6003712aD): the first community of a kind.
-/
import Derived.Test.Qxb6003712aDoorKinds
namespace Go.Proofs.Qxb6003712aDoor
open Go.RowKit
set_option linter.unusedVariables false

def zc : Pl.Com := ⟨0, 0, 0, 0, 0, 0, 0, 0⟩
/-- c is the first of kind k, b: there is one; else c is the zero community. -/
def Fst (cs : List Pl.Com) (k : Int) (c : Pl.Com) (b : Bool) : Prop :=
  (b = true ∧ cs.find? (fun d => d.kind == k) = some c) ∨ (b = false ∧ cs.find? (fun d => d.kind == k) = Option.none ∧ c = zc)
theorem fst_ex (cs : List Pl.Com) (k : Int) : ∃ c b, Fst cs k c b := by
  cases h : cs.find? (fun d => d.kind == k) with
  | none => exact ⟨zc, false, .inr ⟨rfl, h, rfl⟩⟩
  | some c => exact ⟨c, true, .inl ⟨rfl, h⟩⟩
theorem fst_ok {cs : List Pl.Com} {k : Int} {c : Pl.Com} {b : Bool} (h : Fst cs k c b) (hok : ∀ d ∈ cs, d.ok) : c.ok := by
  rcases h with ⟨_, h⟩ | ⟨_, _, rfl⟩
  · exact hok c (List.mem_of_find?_eq_some h)
  · unfold zc Pl.Com.ok; simp
theorem find_hit {cs : List Pl.Com} {k : Nat} {kk : Int} {d : Pl.Com} {r : Option Pl.Com} (h : (cs.drop k).find? (fun d => d.kind == kk) = r) (hd : cs[k]? = some d) (hk : (d.kind == kk) = true) : r = some d := by
  have hlt : k < cs.length := (List.getElem?_eq_some_iff.1 hd).1
  rw [List.drop_eq_getElem_cons hlt] at h
  have e : cs[k] = d := (List.getElem?_eq_some_iff.1 hd).2
  rw [e, List.find?_cons_of_pos (by simpa using hk)] at h
  exact h.symm
theorem find_miss {cs : List Pl.Com} {k : Nat} {kk : Int} {d : Pl.Com} {r : Option Pl.Com} (h : (cs.drop k).find? (fun d => d.kind == kk) = r) (hd : cs[k]? = some d) (hk : (d.kind == kk) = false) : (cs.drop (k + 1)).find? (fun d => d.kind == kk) = r := by
  have hlt : k < cs.length := (List.getElem?_eq_some_iff.1 hd).1
  rw [List.drop_eq_getElem_cons hlt] at h
  have e : cs[k] = d := (List.getElem?_eq_some_iff.1 hd).2
  rw [e, List.find?_cons_of_neg (by simp [hk])] at h
  exact h

/-- The block of eight zero octets in which a result is laid. -/
def Z8 : Obj := .cells #[.int .u8 0, .int .u8 0, .int .u8 0, .int .u8 0, .int .u8 0, .int .u8 0, .int .u8 0, .int .u8 0] 45
theorem z8_cells (w : World) : At8 (w.alloc Z8) w.heap.size 0 zc := by
  have hg := heap_alloc_new w Z8
  refine ⟨?_, ?_, ?_, ?_, ?_, ?_, ?_, ?_⟩ <;> (rw [cell_of_row _ _ _ _ _ _ hg]; rfl)
theorem z8_free (w : World) (j : Nat) : (w.alloc Z8).frozen? ⟨w.heap.size, j, none⟩ = false := frozen_of_row _ _ _ _ _ (heap_alloc_new w Z8)

set_option maxHeartbeats 2000000 in
/-- c3wFirst, the slice at a known place. -/
theorem firstM_some (b off n cap : Nat) (kk : Int) (cs : List Pl.Com) (c : Pl.Com) (bb : Bool) (w : World) (hn : n ≤ 1048576) (HL : Hid (cs.length = n)) (HO : Hid (∀ d ∈ cs, d.ok)) (HC : Hid (Coms w b off cs)) (HF : Hid (Fst cs kk c bb)) :
    Calls Tryd.prog 11 #[.slice (some ⟨b, off, none⟩) n cap, .int .u8 kk] w fun e w' =>
      e = .returned (.tuple #[.agg #[.int .u8 c.a0, .int .u8 c.a1, .int .u8 c.a2, .int .u8 c.a3, .int .u8 c.a4, .int .u8 c.a5, .int .u8 c.a6, .int .u8 c.a7], .bool bb]) ∧ Below w.heap.size w w' := by
  have HB0 : Hid (Below w.heap.size w (w.alloc Z8)) := (Below.refl _ _).alloc (Nat.le_refl _) _
  go_enter Tryd.func11, Tryd.ntmps11
  go_wp2
  go_loopw [6] (fun i wr => ∃ k : Nat, k ≤ n ∧ i = .int .i64 k ∧ Hid (Below (w.alloc Z8).heap.size (w.alloc Z8) wr) ∧ Hid ((cs.drop k).find? (fun d => d.kind == kk) = cs.find? (fun d => d.kind == kk))) (fun i _ => n - (intOf i).toNat)
  case atStart => exact ⟨0, by omega, rfl, Below.refl _ _, rfl⟩
  case round =>
    obtain ⟨k, hk, rfl, HB, HD⟩ := hrel
    have HBw : Hid (Below w.heap.size w wr) := HB0.out.trans (HB.out.mono (by simp))
    obtain ⟨z0, z1, z2, z3, z4, z5, z6, z7⟩ := (z8_cells w).keep (fun j _ => HB.out.cell (p := ⟨w.heap.size, 0 + j, none⟩) (by simp))
    have fz : ∀ j, wr.frozen? ⟨w.heap.size, j, none⟩ = false := fun j => (HB.out.frozen (p := ⟨w.heap.size, j, none⟩) (by simp)).trans (z8_free w j)
    have hR : w.heap.size < wr.heap.size := World.block_lt_of_cell? _ _ z0
    simp only [Nat.zero_add] at z0 z1 z2 z3 z4 z5 z6 z7
    by_cases hlt : k < n
    · obtain ⟨d, hd⟩ : ∃ d, cs[k]? = some d := ⟨cs[k]'(by rw [HL.out]; exact hlt), by simp⟩
      obtain ⟨⟨⟨o0, p0⟩, o1, p1⟩, _⟩ := com_ok (HO.out d (List.mem_of_getElem? hd))
      have hA := (HC.out.later HBw.out) k d hd
      have hbw : b < wr.heap.size := hA.lt
      obtain ⟨q0, q1, q2, q3, q4, q5, q6, q7⟩ := hA
      cases hkd : (d.kind == kk) with
      | true =>
        have hs := find_hit HD.out hd hkd
        have hcd : c = d ∧ bb = true := by
          rcases HF.out with ⟨hb, hf⟩ | ⟨_, hf, _⟩
          · rw [hs] at hf; exact ⟨(Option.some.inj hf).symm, hb⟩
          · rw [hs] at hf; cases hf
        obtain ⟨rfl, rfl⟩ := hcd
        have hk2 : (Pl.kindI c.a0 c.a1 == kk) = true := hkd
        have HB2 : ∀ o, Hid (Below w.heap.size w (wr.alloc o)) := fun o => HBw.out.alloc HBw.out.size _
        clear hkd hs hd HD HF HC HB
        go_wp2_with (go_at_call 6; refine (model_any c.a0 c.a1 c.a2 c.a3 c.a4 c.a5 c.a6 c.a7 o1 _).mono ?_; rintro e w' ⟨rfl, rfl⟩)
        exact bodyPost_ret (v := .tuple #[.agg #[.int .u8 c.a0, .int .u8 c.a1, .int .u8 c.a2, .int .u8 c.a3, .int .u8 c.a4, .int .u8 c.a5, .int .u8 c.a6, .int .u8 c.a7], .bool true]) (by simp [results, Tryd.results11, go_sem, z0, z1, z2, z3, z4, z5, z6, z7, hR]) rfl ⟨rfl, (set8_below HBw.out w.heap.size 0 c (Nat.le_refl _)).alloc (set8_below HBw.out w.heap.size 0 c (Nat.le_refl _)).size _⟩
      | false =>
        have HD' := find_miss HD.out hd hkd
        have HD2 : Hid ((cs.drop (k + 1)).find? (fun d => d.kind == kk) = cs.find? (fun d => d.kind == kk)) := HD'
        have hk2 : (Pl.kindI d.a0 d.a1 == kk) = false := hkd
        have HB2 : ∀ o, Hid (Below (w.alloc Z8).heap.size (w.alloc Z8) (wr.alloc o)) := fun o => HB.out.alloc HB.out.size _
        clear HD' hkd hd HD HF HC HB z0 z1 z2 z3 z4 z5 z6 z7 fz
        go_wp2_with (go_at_call 6; refine (model_any d.a0 d.a1 d.a2 d.a3 d.a4 d.a5 d.a6 d.a7 o1 _).mono ?_; rintro e w' ⟨rfl, rfl⟩)
        go_roundw
        case rel => exact ⟨k + 1, by omega, by go_num, HB2 _, HD2⟩
        case measure => simp [intOf]; omega
    · have hs := HD.out
      rw [List.drop_of_length_le (by rw [HL.out]; omega)] at hs
      have hcd : c = zc ∧ bb = false := by
        rcases HF.out with ⟨hb, hf⟩ | ⟨hb, _, hc⟩
        · rw [← hs] at hf; cases hf
        · exact ⟨hc, hb⟩
      obtain ⟨rfl, rfl⟩ := hcd
      clear hs HD HF HC HB
      go_wp2
      exact bodyPost_ret (v := .tuple #[.agg #[.int .u8 zc.a0, .int .u8 zc.a1, .int .u8 zc.a2, .int .u8 zc.a3, .int .u8 zc.a4, .int .u8 zc.a5, .int .u8 zc.a6, .int .u8 zc.a7], .bool false]) (by simp [results, Tryd.results11, go_sem, z0, z1, z2, z3, z4, z5, z6, z7, zc]) rfl ⟨rfl, set8_below HBw.out w.heap.size 0 zc (Nat.le_refl _)⟩

set_option maxHeartbeats 1000000 in
/-- c3wFirst, an empty slice (the nil one too). -/
theorem firstM_zero (a : Option Addr) (cap : Nat) (kk : Int) (w : World) :
    Calls Tryd.prog 11 #[.slice a 0 cap, .int .u8 kk] w fun e w' =>
      e = .returned (.tuple #[.agg #[.int .u8 zc.a0, .int .u8 zc.a1, .int .u8 zc.a2, .int .u8 zc.a3, .int .u8 zc.a4, .int .u8 zc.a5, .int .u8 zc.a6, .int .u8 zc.a7], .bool false]) ∧ Below w.heap.size w w' := by
  go_enter Tryd.func11, Tryd.ntmps11
  go_wp2
  refine wp_loop_rounds 1 ?_
  rw [rounds_succ]
  go_wp2
  exact bodyPost_ret (v := .tuple #[.agg #[.int .u8 zc.a0, .int .u8 zc.a1, .int .u8 zc.a2, .int .u8 zc.a3, .int .u8 zc.a4, .int .u8 zc.a5, .int .u8 zc.a6, .int .u8 zc.a7], .bool false]) (by simp [results, Tryd.results11, go_sem, zc]) rfl ⟨rfl, (Below.refl _ _).alloc (Nat.le_refl _) _⟩

set_option maxHeartbeats 2000000 in
/-- (*Attributes).first, a slice that is not nil. -/
theorem firstA_some (P g n cap : Nat) (kk : Int) (cs : List Pl.Com) (c : Pl.Com) (bb : Bool) (w : World) (hs1 : 1 < w.heap.size) (hn : n ≤ 1048576) (hP : w.cell? ⟨P, 3, none⟩ = some (.slice (some ⟨g, 0, none⟩) n cap)) (HL : Hid (cs.length = n)) (HO : Hid (∀ d ∈ cs, d.ok)) (HC : Hid (Coms w g 0 cs)) (HF : Hid (Fst cs kk c bb)) (HT : Hid (Tab w)) :
    Calls Tryd.prog 25 #[.pointer (some ⟨P, 0, none⟩), .int .u8 kk] w fun e w' => e = .returned (.tuple #[.agg #[.int .u8 c.a0, .int .u8 c.a1, .int .u8 c.a2, .int .u8 c.a3, .int .u8 c.a4, .int .u8 c.a5, .int .u8 c.a6, .int .u8 c.a7], .bool bb]) ∧ Below w.heap.size w w' := by
  have HB0 : Hid (Below w.heap.size w (w.alloc Z8)) := (Below.refl _ _).alloc (Nat.le_refl _) _
  have hPw : P < w.heap.size := World.block_lt_of_cell? _ _ hP
  go_enter Tryd.func25, Tryd.ntmps25
  go_wp2
  go_loopw [13] (fun i wr => ∃ k : Nat, k ≤ n ∧ i = .int .i64 k ∧ Hid (Below (w.alloc Z8).heap.size (w.alloc Z8) wr) ∧ Hid ((cs.drop k).find? (fun d => d.kind == kk) = cs.find? (fun d => d.kind == kk))) (fun i _ => n - (intOf i).toNat)
  case atStart => exact ⟨0, by omega, rfl, Below.refl _ _, rfl⟩
  case round =>
    obtain ⟨k, hk, rfl, HB, HD⟩ := hrel
    have HBw : Hid (Below w.heap.size w wr) := HB0.out.trans (HB.out.mono (by simp))
    obtain ⟨z0, z1, z2, z3, z4, z5, z6, z7⟩ := (z8_cells w).keep (fun j _ => HB.out.cell (p := ⟨w.heap.size, 0 + j, none⟩) (by simp))
    have fz : ∀ j, wr.frozen? ⟨w.heap.size, j, none⟩ = false := fun j => (HB.out.frozen (p := ⟨w.heap.size, j, none⟩) (by simp)).trans (z8_free w j)
    have hR : w.heap.size < wr.heap.size := World.block_lt_of_cell? _ _ z0
    have HTr : Hid (Tab wr) := HT.out.below HBw.out hs1
    have HA : ∀ o, Hid (Tab (wr.alloc o)) := fun o => HTr.out.below ((Below.refl wr.heap.size wr).alloc (Nat.le_refl _) o) (by omega)
    simp only [Nat.zero_add] at z0 z1 z2 z3 z4 z5 z6 z7
    by_cases hlt : k < n
    · obtain ⟨d, hd⟩ : ∃ d, cs[k]? = some d := ⟨cs[k]'(by rw [HL.out]; exact hlt), by simp⟩
      obtain ⟨⟨⟨o0, p0⟩, o1, p1⟩, _⟩ := com_ok (HO.out d (List.mem_of_getElem? hd))
      have hA := (HC.out.later HBw.out) k d hd
      have hbw : g < wr.heap.size := hA.lt
      obtain ⟨q0, q1, q2, q3, q4, q5, q6, q7⟩ := hA
      simp only [Nat.zero_add] at q0 q1 q2 q3 q4 q5 q6 q7
      cases hkd : (d.kind == kk) with
      | true =>
        have hs := find_hit HD.out hd hkd
        have hcd : c = d ∧ bb = true := by
          rcases HF.out with ⟨hb, hf⟩ | ⟨_, hf, _⟩
          · rw [hs] at hf; exact ⟨(Option.some.inj hf).symm, hb⟩
          · rw [hs] at hf; cases hf
        obtain ⟨rfl, rfl⟩ := hcd
        have hk2 : (Pl.kindI c.a0 c.a1 == kk) = true := hkd
        have HB8 := set8_below HBw.out w.heap.size 0 c (Nat.le_refl _)
        have HBE : ∀ o o', Hid (Below w.heap.size w (((set8 wr w.heap.size 0 c).alloc o).alloc o')) := fun o o' => (HB8.alloc HB8.size o).alloc (by have := HB8.size; simp; omega) o'
        clear hkd hs hd HD HF HC HB HB8
        go_wp2_with (go_at_call 23; refine (kind_any c.a0 c.a1 c.a2 c.a3 c.a4 c.a5 c.a6 c.a7 o0 p0 o1 p1 _ (by simp; omega) (by exact HA _)).mono ?_; rintro e w' ⟨rfl, rfl⟩)
        exact bodyPost_ret (v := .tuple #[.agg #[.int .u8 c.a0, .int .u8 c.a1, .int .u8 c.a2, .int .u8 c.a3, .int .u8 c.a4, .int .u8 c.a5, .int .u8 c.a6, .int .u8 c.a7], .bool true]) (by simp [results, Tryd.results25, go_sem, z0, z1, z2, z3, z4, z5, z6, z7, hR]) rfl ⟨rfl, HBE _ _⟩
      | false =>
        have HD' := find_miss HD.out hd hkd
        have HD2 : Hid ((cs.drop (k + 1)).find? (fun d => d.kind == kk) = cs.find? (fun d => d.kind == kk)) := HD'
        have hk2 : (Pl.kindI d.a0 d.a1 == kk) = false := hkd
        have HB2 : ∀ o o', Hid (Below (w.alloc Z8).heap.size (w.alloc Z8) ((wr.alloc o).alloc o')) := fun o o' => (HB.out.alloc HB.out.size o).alloc (by have := HB.out.size; simp at this ⊢; omega) o'
        clear HD' hkd hd HD HF HC HB z0 z1 z2 z3 z4 z5 z6 z7 fz
        go_wp2_with (go_at_call 23; refine (kind_any d.a0 d.a1 d.a2 d.a3 d.a4 d.a5 d.a6 d.a7 o0 p0 o1 p1 _ (by simp; omega) (by exact HA _)).mono ?_; rintro e w' ⟨rfl, rfl⟩)
        go_roundw
        case rel => exact ⟨k + 1, by omega, by go_num, HB2 _ _, HD2⟩
        case measure => simp [intOf]; omega
    · have hs := HD.out
      rw [List.drop_of_length_le (by rw [HL.out]; omega)] at hs
      have hcd : c = zc ∧ bb = false := by
        rcases HF.out with ⟨hb, hf⟩ | ⟨hb, _, hc⟩
        · rw [← hs] at hf; cases hf
        · exact ⟨hc, hb⟩
      obtain ⟨rfl, rfl⟩ := hcd
      clear hs HD HF HC HB
      go_wp2
      exact bodyPost_ret (v := .tuple #[.agg #[.int .u8 zc.a0, .int .u8 zc.a1, .int .u8 zc.a2, .int .u8 zc.a3, .int .u8 zc.a4, .int .u8 zc.a5, .int .u8 zc.a6, .int .u8 zc.a7], .bool false]) (by simp [results, Tryd.results25, go_sem, z0, z1, z2, z3, z4, z5, z6, z7, zc]) rfl ⟨rfl, set8_below HBw.out w.heap.size 0 zc (Nat.le_refl _)⟩

set_option maxHeartbeats 1000000 in
/-- (*Attributes).first, the nil slice. -/
theorem firstA_nil (P : Nat) (kk : Int) (w : World) (hP : w.cell? ⟨P, 3, none⟩ = some (.slice none 0 0)) :
    Calls Tryd.prog 25 #[.pointer (some ⟨P, 0, none⟩), .int .u8 kk] w fun e w' =>
      e = .returned (.tuple #[.agg #[.int .u8 zc.a0, .int .u8 zc.a1, .int .u8 zc.a2, .int .u8 zc.a3, .int .u8 zc.a4, .int .u8 zc.a5, .int .u8 zc.a6, .int .u8 zc.a7], .bool false]) ∧ Below w.heap.size w w' := by
  have hPw : P < w.heap.size := World.block_lt_of_cell? _ _ hP
  go_enter Tryd.func25, Tryd.ntmps25
  go_wp2
  refine wp_loop_rounds 1 ?_
  rw [rounds_succ]
  go_wp2
  exact bodyPost_ret (v := .tuple #[.agg #[.int .u8 zc.a0, .int .u8 zc.a1, .int .u8 zc.a2, .int .u8 zc.a3, .int .u8 zc.a4, .int .u8 zc.a5, .int .u8 zc.a6, .int .u8 zc.a7], .bool false]) (by simp [results, Tryd.results25, go_sem, zc]) rfl ⟨rfl, (Below.refl _ _).alloc (Nat.le_refl _) _⟩

/-- (*Attributes).first. -/
theorem firstA_ready {w : World} {P : Nat} {sv : Value} {cs : List Pl.Com} (h : Ready w P sv cs) (kk : Int) (c : Pl.Com) (bb : Bool) (hm : Hid (cs.length ≤ 1048576)) (HO : Hid (∀ d ∈ cs, d.ok)) (HF : Hid (Fst cs kk c bb)) :
    Calls Tryd.prog 25 #[.pointer (some ⟨P, 0, none⟩), .int .u8 kk] w fun e w' => e = .returned (.tuple #[.agg #[.int .u8 c.a0, .int .u8 c.a1, .int .u8 c.a2, .int .u8 c.a3, .int .u8 c.a4, .int .u8 c.a5, .int .u8 c.a6, .int .u8 c.a7], .bool bb]) ∧ Below w.heap.size w w' := by
  rcases h.row with ⟨rfl, rfl⟩ | ⟨g, cap, rfl, _, hc⟩
  · have hcd : c = zc ∧ bb = false := by
      rcases HF.out with ⟨hb, hf⟩ | ⟨hb, _, hc⟩
      · cases hf
      · exact ⟨hc, hb⟩
    obtain ⟨rfl, rfl⟩ := hcd
    exact firstA_nil P kk w h.cell
  · exact firstA_some P g cs.length cap kk cs c bb w h.size hm h.cell rfl HO hc HF h.tab

end Go.Proofs.Qxb6003712aDoor
