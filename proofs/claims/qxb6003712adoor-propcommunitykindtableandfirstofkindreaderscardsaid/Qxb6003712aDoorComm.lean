/-
  THE WALK OF THE LAW PropCommunityKindTableAndFirstOfKindReaders (seat b6003712aD).
-/
import Derived.Test.Qxb6003712aDoorEq
import Derived.Deep.DeepCutAuto
namespace Go.Proofs.Qxb6003712aDoor
open Go.RowKit
set_option linter.unusedVariables false

/-- Six cells hold the MAC that came in. -/
def Box6 (W : World) (g : Nat) (v0 v1 v2 v3 v4 v5 : Int) : Prop :=
  W.cell? ⟨g, 0, none⟩ = some (.int .u8 v0) ∧ W.cell? ⟨g, 1, none⟩ = some (.int .u8 v1) ∧ W.cell? ⟨g, 2, none⟩ = some (.int .u8 v2) ∧ W.cell? ⟨g, 3, none⟩ = some (.int .u8 v3) ∧ W.cell? ⟨g, 4, none⟩ = some (.int .u8 v4) ∧ W.cell? ⟨g, 5, none⟩ = some (.int .u8 v5)
theorem Box6.later {W W' : World} {g : Nat} {v0 v1 v2 v3 v4 v5 : Int} (h : Box6 W g v0 v1 v2 v3 v4 v5) (hb : Below W.heap.size W W') : Box6 W' g v0 v1 v2 v3 v4 v5 := by
  obtain ⟨h0, h1, h2, h3, h4, h5⟩ := h
  exact ⟨cell_later hb h0, cell_later hb h1, cell_later hb h2, cell_later hb h3, cell_later hb h4, cell_later hb h5⟩
theorem At8.later {W W' : World} {g o : Nat} {c : Pl.Com} (h : At8 W g o c) (hb : Below W.heap.size W W') : At8 W' g o c := h.keep fun j _ => hb.cell (p := ⟨g, o + j, none⟩) h.lt

/-- WHERE THE COMMUNITIES LIE, IF THERE ARE ANY. -/
def Src (W : World) (a : Option Addr) (cs : List Pl.Com) : Prop := 0 < cs.length → ∃ b off, a = some ⟨b, off, none⟩ ∧ Coms W b off cs
theorem Src.later {W W' : World} {a : Option Addr} {cs : List Pl.Com} (h : Src W a cs) (hb : Below W.heap.size W W') : Src W' a cs := fun hl => by
  obtain ⟨b, off, e, hc⟩ := h hl
  exact ⟨b, off, e, hc.later hb⟩

/-- FirstModel, of any slice. -/
theorem firstM_gen (a : Option Addr) (n cap : Nat) (kk : Int) (cs : List Pl.Com) (c : Pl.Com) (bb : Bool) (w : World) (hn : n ≤ 1048576) (HL : Hid (cs.length = n)) (HO : Hid (∀ d ∈ cs, d.ok)) (HC : Hid (Src w a cs)) (HF : Hid (Fst cs kk c bb)) :
    Calls Tryd.prog 11 #[.slice a n cap, .int .u8 kk] w fun e w' =>
      e = .returned (.tuple #[.agg #[.int .u8 c.a0, .int .u8 c.a1, .int .u8 c.a2, .int .u8 c.a3, .int .u8 c.a4, .int .u8 c.a5, .int .u8 c.a6, .int .u8 c.a7], .bool bb]) ∧ Below w.heap.size w w' := by
  rcases Nat.eq_zero_or_pos n with h0 | hp
  · subst h0
    obtain rfl : cs = [] := List.eq_nil_of_length_eq_zero HL.out
    rcases HF.out with ⟨_, hk⟩ | ⟨rfl, _, rfl⟩
    · simp at hk
    · exact firstM_zero a cap kk w
  · obtain ⟨b, off, rfl, hc⟩ := HC.out (by rw [HL.out]; exact hp)
    exact firstM_some b off n cap kk cs c bb w hn HL HO hc HF

/-- cloneBytes's kin, of any slice. -/
theorem clone_gen (a : Option Addr) (n cap : Nat) (cs : List Pl.Com) (w : World) (hn : n ≤ 1048576) (HL : Hid (cs.length = n)) (HC : Hid (Src w a cs)) (HN : Hid (a = none → cap = 0)) :
    Calls Tryd.prog 5 #[.slice a n cap] w fun e w' => ∃ a1 c1, e = .returned (.slice a1 n c1) ∧ Below w.heap.size w w' ∧ Sv w'.heap.size w' (.slice a1 n c1) cs := by
  rcases Nat.eq_zero_or_pos n with h0 | hp
  · subst h0
    obtain rfl : cs = [] := List.eq_nil_of_length_eq_zero HL.out
    cases a with
    | none =>
      obtain rfl := HN.out rfl
      exact (clone_nil w).mono fun e w' ⟨h, hw⟩ => ⟨_, _, h, by rw [hw]; exact Below.refl _ _, .inl ⟨rfl, rfl⟩⟩
    | some x => exact (clone_zero x cap w).mono fun e w' ⟨h, hb, hz⟩ => ⟨_, _, h, hb, .inr ⟨w.heap.size, 0, rfl, hz, fun k c h => by simp at h⟩⟩
  · obtain ⟨b, off, rfl, hc⟩ := HC.out (by rw [HL.out]; exact hp)
    exact (clone_some b off n cap cs w hn HL hc).mono fun e w' ⟨h, hb, hz, hc'⟩ => ⟨_, _, h, hb, .inr ⟨w.heap.size, n, by rw [HL.out], hz, hc'⟩⟩

/-- WHAT LIES ALL ALONG THE LAW's ROAD: the attributes with their communities; the communities that came in; the MAC that came in; and nothing old has turned. -/
structure St (w W : World) (P : Nat) (a : Option Addr) (sv : Value) (cs : List Pl.Com) (v0 v1 v2 v3 v4 v5 : Int) : Prop where
  ready : Ready W P sv cs
  src : Src W a cs
  box : Box6 W w.heap.size v0 v1 v2 v3 v4 v5
  below : Below w.heap.size w W
theorem St.later {w W W' : World} {P : Nat} {a : Option Addr} {sv : Value} {cs : List Pl.Com} {v0 v1 v2 v3 v4 v5 : Int} (h : St w W P a sv cs v0 v1 v2 v3 v4 v5) (hb : Below W.heap.size W W') : St w W' P a sv cs v0 v1 v2 v3 v4 v5 :=
  ⟨h.ready.later hb, h.src.later hb, h.box.later hb, h.below.trans (hb.mono h.below.size)⟩

theorem sv_shape {n₀ : Nat} {W : World} {v : Value} {os : List Pl.Com} (h : Sv n₀ W v os) : ∃ a m cap, v = .slice a m cap ∧ m = os.length ∧ (0 < m → ∃ g, a = some ⟨g, 0, none⟩ ∧ g < n₀ ∧ Coms W g 0 os) := by
  rcases h with ⟨rfl, rfl⟩ | ⟨g, cap, rfl, hg, hc⟩
  · exact ⟨_, _, _, rfl, rfl, fun h => absurd h (by omega)⟩
  · exact ⟨_, _, _, rfl, rfl, fun _ => ⟨g, rfl, hg, hc⟩⟩

theorem oth_idx {cs : List Pl.Com} {k : Nat} {c : Pl.Com} (h : cs[k]? = some c) (hk : (c.kind == 0) = true) : (oth cs)[(oth (cs.take k)).length]? = some c := by
  have e : oth cs = oth (cs.take (k + 1)) ++ oth (cs.drop (k + 1)) := by unfold oth; rw [← List.filter_append, List.take_append_drop]
  rw [e, oth_yes h hk, List.append_assoc, List.getElem?_append_right (Nat.le_refl _), Nat.sub_self]
  rfl

/-- The block in which a community is boxed. -/
theorem box_at (W : World) (c : Pl.Com) : At8 (W.alloc (.cells #[.int .u8 c.a0, .int .u8 c.a1, .int .u8 c.a2, .int .u8 c.a3, .int .u8 c.a4, .int .u8 c.a5, .int .u8 c.a6, .int .u8 c.a7] 45)) W.heap.size 0 c := by
  have hg := heap_alloc_new W (.cells #[.int .u8 c.a0, .int .u8 c.a1, .int .u8 c.a2, .int .u8 c.a3, .int .u8 c.a4, .int .u8 c.a5, .int .u8 c.a6, .int .u8 c.a7] 45)
  refine ⟨?_, ?_, ?_, ?_, ?_, ?_, ?_, ?_⟩ <;> (rw [cell_of_row _ _ _ _ _ _ hg]; rfl)

/-- ESImport of the attributes with the one community. -/
theorem one_imp (v0 v1 v2 v3 v4 v5 : Int) (Hv : Hid ((0 ≤ v0 ∧ v0 ≤ 255) ∧ (0 ≤ v1 ∧ v1 ≤ 255) ∧ (0 ≤ v2 ∧ v2 ≤ 255) ∧ (0 ≤ v3 ∧ v3 ≤ 255) ∧ (0 ≤ v4 ∧ v4 ≤ 255) ∧ (0 ≤ v5 ∧ v5 ≤ 255))) (W : World) (hs : 1 < W.heap.size) (ht : Tab W) :
    Calls Tryd.prog 15 #[.pointer (some ⟨W.heap.size + 1, 0, none⟩)]
      ((W.alloc (.cells #[.int .u8 6, .int .u8 2, .int .u8 v0, .int .u8 v1, .int .u8 v2, .int .u8 v3, .int .u8 v4, .int .u8 v5] 45)).alloc (.cells #[.int .u64 0, .int .u64 0, .pointer none, .slice (some ⟨W.heap.size, 0, none⟩) 1 1, .pointer none, .int .u8 0, .slice none 0 0, .int .u32 0, .int .u32 0] 43))
      fun e w' => e = .returned (.tuple #[.agg #[.int .u8 v0, .int .u8 v1, .int .u8 v2, .int .u8 v3, .int .u8 v4, .int .u8 v5], .bool true]) ∧ Below W.heap.size W w' := by
  obtain ⟨W1, hW1⟩ : ∃ W1, W1 = W.alloc (.cells #[.int .u8 6, .int .u8 2, .int .u8 v0, .int .u8 v1, .int .u8 v2, .int .u8 v3, .int .u8 v4, .int .u8 v5] 45) := ⟨_, rfl⟩
  have hz : W1.heap.size = W.heap.size + 1 := by rw [hW1]; simp
  have hb : Below W.heap.size W W1 := by rw [hW1]; exact (Below.refl _ _).alloc (Nat.le_refl _) _
  have hat : At8 W1 W.heap.size 0 ⟨6, 2, v0, v1, v2, v3, v4, v5⟩ := by rw [hW1]; exact box_at W ⟨6, 2, v0, v1, v2, v3, v4, v5⟩
  have hco : Coms W1 W.heap.size 0 [⟨6, 2, v0, v1, v2, v3, v4, v5⟩] := fun k c hk => by
    match k, hk with
    | 0, hk => obtain rfl := Option.some.inj hk; exact hat
  rw [← hW1, ← hz]
  have hr : Ready (W1.alloc (attrs (.slice (some ⟨W.heap.size, 0, none⟩) 1 1))) W1.heap.size (.slice (some ⟨W.heap.size, 0, none⟩) 1 1) [⟨6, 2, v0, v1, v2, v3, v4, v5⟩] :=
    Ready.new (by omega) (.inr ⟨W.heap.size, 1, rfl, by omega, hco⟩) (ht.below hb hs)
  have hb2 : Below W.heap.size W (W1.alloc (attrs (.slice (some ⟨W.heap.size, 0, none⟩) 1 1))) := hb.alloc (by omega) _
  refine (imp_ready hr ⟨6, 2, v0, v1, v2, v3, v4, v5⟩ true (by show _ ≤ _; simp) (fun d hd => ?_) (.inl ⟨rfl, rfl⟩)).mono ?_
  · obtain rfl := List.mem_singleton.1 hd
    exact ⟨(show (0 : Int) ≤ 6 ∧ (6 : Int) ≤ 255 by decide), (show (0 : Int) ≤ 2 ∧ (2 : Int) ≤ 255 by decide), Hv.out⟩
  · rintro e w' ⟨he, hb3⟩
    exact ⟨he, hb2.trans (hb3.mono hb2.size)⟩

set_option maxHeartbeats 20000000 in
set_option maxRecDepth 100000 in
/-- The law, wherever the slice lies. -/
theorem comm_gen (a : Option Addr) (n cap : Nat) (cs : List Pl.Com) (t v0 v1 v2 v3 v4 v5 : Int) (w : World) (hn : n ≤ 1048576) (ht0 : 0 ≤ t) (ht1 : t ≤ 65535) (Hv : Hid ((0 ≤ v0 ∧ v0 ≤ 255) ∧ (0 ≤ v1 ∧ v1 ≤ 255) ∧ (0 ≤ v2 ∧ v2 ≤ 255) ∧ (0 ≤ v3 ∧ v3 ≤ 255) ∧ (0 ≤ v4 ∧ v4 ≤ 255) ∧ (0 ≤ v5 ∧ v5 ≤ 255))) (hs1 : 1 < w.heap.size) (HL : Hid (cs.length = n)) (HO : Hid (∀ c ∈ cs, c.ok)) (HC : Hid (Src w a cs)) (HN : Hid (a = none → cap = 0)) (HT : Hid (Tab w)) :
    Calls Tryd.prog 3 #[.slice a n cap, .int .u16 t, .agg #[.int .u8 v0, .int .u8 v1, .int .u8 v2, .int .u8 v3, .int .u8 v4, .int .u8 v5]] w fun e w' => e = .returned (.bool true) ∧ Below w.heap.size w w' := by
  have Hm : Hid (cs.length ≤ 1048576) := by show _ ≤ _; rw [HL.out]; exact hn
  obtain ⟨W0, hW0⟩ : ∃ W0, W0 = w.alloc (.cells #[.int .u8 v0, .int .u8 v1, .int .u8 v2, .int .u8 v3, .int .u8 v4, .int .u8 v5] 26) := ⟨_, rfl⟩
  have HB0 : Hid (Below w.heap.size w W0) := by show Below _ _ _; rw [hW0]; exact (Below.refl _ _).alloc (Nat.le_refl _) _
  have HC0 : Hid (Src W0 a cs) := HC.out.later HB0.out
  have HT0 : Hid (Tab W0) := HT.out.below HB0.out hs1
  have hs0 : 1 < W0.heap.size := Nat.lt_of_lt_of_le hs1 HB0.out.size
  have HW0 : Hid (W0 = w.alloc (.cells #[.int .u8 v0, .int .u8 v1, .int .u8 v2, .int .u8 v3, .int .u8 v4, .int .u8 v5] 26)) := hW0
  clear hW0
  go_enter Tryd.func3, Tryd.ntmps3
  go_wp2_with fail
  rw [← HW0.out]
  refine (clone_gen a n cap cs W0 hn HL HC0 HN).mono ?_
  rintro e W1 ⟨a1, c1, rfl, hb1, hsv1⟩
  have hb1' := hb1
  go_wp2_with fail
  obtain ⟨W2, hW2⟩ : ∃ W2, W2 = W1.alloc (.cells #[.int .u64 0, .int .u64 0, .pointer none, .slice a1 n c1, .pointer none, .int .u8 0, .slice none 0 0, .int .u32 0, .int .u32 0] 43) := ⟨_, rfl⟩
  rw [← hW2]
  have HS2 : Hid (St w W2 W1.heap.size a (.slice a1 n c1) cs v0 v1 v2 v3 v4 v5) := by
    have hbW : Below W1.heap.size W1 W2 := by rw [hW2]; exact (Below.refl _ _).alloc (Nat.le_refl _) _
    have hr : Ready (W1.alloc (attrs (.slice a1 n c1))) W1.heap.size (.slice a1 n c1) cs :=
      Ready.new (Nat.lt_of_lt_of_le hs0 hb1.size) hsv1 (HT0.out.below hb1 hs0)
    have hbox : Box6 W0 w.heap.size v0 v1 v2 v3 v4 v5 := by
      rw [HW0.out]
      have hg := heap_alloc_new w (.cells #[.int .u8 v0, .int .u8 v1, .int .u8 v2, .int .u8 v3, .int .u8 v4, .int .u8 v5] 26)
      refine ⟨?_, ?_, ?_, ?_, ?_, ?_⟩ <;> (rw [cell_of_row _ _ _ _ _ _ hg]; rfl)
    have h01 : Below w.heap.size w W1 := HB0.out.trans (hb1.mono HB0.out.size)
    exact ⟨by rw [hW2]; exact hr, (HC0.out.later hb1).later hbW, (hbox.later hb1).later hbW, h01.trans (hbW.mono h01.size)⟩
  obtain ⟨P, hP⟩ : ∃ P, P = W1.heap.size := ⟨_, rfl⟩
  rw [← hP] at HS2
  rw [← hP]
  clear hW2 hP hb1 hb1' hsv1 HB0 HC0 HT0 hs0 HW0 HC HT HN
  -- LOOP 1: the kinds
  go_loopw [8, 9] (fun c i wr => ∃ (k q : Nat), k ≤ n ∧ q ≤ k ∧ i = .int .i64 k ∧ c = .int .i64 q ∧ Hid (q = (oth (cs.take k)).length) ∧ Hid (Below W2.heap.size W2 wr)) (fun _ i _ => n - (intOf i).toNat)
  case atStart => exact ⟨0, 0, by omega, by omega, rfl, rfl, rfl, Below.refl _ _⟩
  case round =>
    obtain ⟨k, q, hk, hq, rfl, rfl, HQ, HB⟩ := hrel
    have HS : Hid (St w wr P a (.slice a1 n c1) cs v0 v1 v2 v3 v4 v5) := HS2.out.later HB.out
    by_cases hlt : k < n
    · obtain ⟨c, hc⟩ : ∃ c, cs[k]? = some c := ⟨cs[k]'(by rw [HL.out]; exact hlt), by simp⟩
      obtain ⟨⟨⟨o0, p0⟩, o1, p1⟩, ⟨o6, p6⟩, o7, p7⟩ := com_ok (HO.out c (List.mem_of_getElem? hc))
      obtain ⟨b, off, rfl, hco⟩ := HS.out.src (by rw [HL.out]; omega)
      obtain ⟨q0, q1, q2, q3, q4, q5, q6, q7⟩ := hco k c hc
      clear hco
      have hsr : 1 < wr.heap.size := HS.out.ready.size
      have HX : ∀ o o', Hid (Below wr.heap.size wr ((wr.alloc o).alloc o')) := fun o o' => ((Below.refl _ _).alloc (Nat.le_refl _) o).alloc (by simp) o'
      have HTX : ∀ o o', Hid (Tab ((wr.alloc o).alloc o')) := fun o o' => HS.out.ready.tab.below (HX o o').out hsr
      have HAX : ∀ o', Hid (At8 ((wr.alloc (.cells #[.int .u8 c.a0, .int .u8 c.a1, .int .u8 c.a2, .int .u8 c.a3, .int .u8 c.a4, .int .u8 c.a5, .int .u8 c.a6, .int .u8 c.a7] 45)).alloc o') wr.heap.size 0 c) := fun o' => (box_at wr c).later ((Below.refl _ _).alloc (Nat.le_refl _) _)
      have hways : (c.kind = 0 ∧ (Pl.kindI c.a0 c.a1 == 0) = true ∧ (Pl.kindI c.a0 c.a1 == 2) = false) ∨ (c.kind = 2 ∧ (Pl.kindI c.a0 c.a1 == 0) = false ∧ (Pl.kindI c.a0 c.a1 == 2) = true) ∨ ((c.kind ≠ 0 ∧ c.kind ≠ 2) ∧ (Pl.kindI c.a0 c.a1 == 0) = false ∧ (Pl.kindI c.a0 c.a1 == 2) = false) := by
        show (Pl.kindI c.a0 c.a1 = 0 ∧ _) ∨ (Pl.kindI c.a0 c.a1 = 2 ∧ _) ∨ ((Pl.kindI c.a0 c.a1 ≠ 0 ∧ Pl.kindI c.a0 c.a1 ≠ 2) ∧ _)
        simp; omega
      rcases hways with ⟨hkd, t0, t2⟩ | ⟨hkd, t0, t2⟩ | ⟨hkd, t0, t2⟩
      · have HQ2 : Hid (q + 1 = (oth (cs.take (k + 1))).length) := by show _ = _; rw [oth_yes hc (by simpa using hkd), HQ.out]; simp
        clear hkd hc HQ
        go_wp2_with fail
        refine (model_any c.a0 c.a1 c.a2 c.a3 c.a4 c.a5 c.a6 c.a7 o1 _).mono ?_
        rintro e w6 ⟨rfl, rfl⟩
        go_wp2_with fail
        refine (zzkind_any c.a0 c.a1 c.a2 c.a3 c.a4 c.a5 c.a6 c.a7 o0 p0 o1 p1 _ (by simp <;> omega) (by exact HTX _ _)).mono ?_
        rintro e w7 ⟨rfl, hb7⟩
        have hbX := (HX _ _).out.trans (hb7.mono (Nat.le_trans (Nat.le_succ _) (by simp)))
        have HX7 : Hid (Below wr.heap.size wr w7) := hbX
        have HT7 : Hid (Tab w7) := HS.out.ready.tab.below hbX hsr
        have hs7 : 1 < w7.heap.size := Nat.lt_of_lt_of_le hsr hbX.size
        obtain ⟨e0, e1, e2, e3, e4, e5, e6, e7⟩ := (HAX _).out.later hb7
        simp only [Nat.zero_add] at e0 e1 e2 e3 e4 e5 e6 e7
        clear hb7 hbX HX HTX HAX
        go_wp2_with fail
        refine (tunnel_no c.a0 c.a1 c.a2 c.a3 c.a4 c.a5 c.a6 c.a7 o0 p0 o1 p1 _ hs7 HT7.out t2).mono ?_
        rintro e w8 ⟨rfl, hb8⟩
        have HB8 : Hid (Below W2.heap.size W2 w8) := (HB.out.trans (HX7.out.mono HB.out.size)).trans (hb8.mono (Nat.le_trans HB.out.size HX7.out.size))
        clear hb8 e0 e1 e2 e3 e4 e5 e6 e7 HX7 HT7 HB
        go_wp2_with fail
        go_roundw
        case rel => exact ⟨k + 1, q + 1, by omega, by omega, by go_num, by go_num, HQ2, HB8⟩
        case measure => simp [intOf]; omega
      · have HQ2 : Hid (q = (oth (cs.take (k + 1))).length) := by show _ = _; rw [oth_no hc (by rw [hkd]; rfl), HQ.out]
        have HK : Hid (Pl.kindI c.a0 c.a1 = 2) := hkd
        clear hkd hc HQ
        go_wp2_with fail
        refine (model_any c.a0 c.a1 c.a2 c.a3 c.a4 c.a5 c.a6 c.a7 o1 _).mono ?_
        rintro e w6 ⟨rfl, rfl⟩
        go_wp2_with fail
        refine (zzkind_any c.a0 c.a1 c.a2 c.a3 c.a4 c.a5 c.a6 c.a7 o0 p0 o1 p1 _ (by simp <;> omega) (by exact HTX _ _)).mono ?_
        rintro e w7 ⟨rfl, hb7⟩
        have hbX := (HX _ _).out.trans (hb7.mono (Nat.le_trans (Nat.le_succ _) (by simp)))
        have HX7 : Hid (Below wr.heap.size wr w7) := hbX
        have HT7 : Hid (Tab w7) := HS.out.ready.tab.below hbX hsr
        have hs7 : 1 < w7.heap.size := Nat.lt_of_lt_of_le hsr hbX.size
        obtain ⟨e0, e1, e2, e3, e4, e5, e6, e7⟩ := (HAX _).out.later hb7
        simp only [Nat.zero_add] at e0 e1 e2 e3 e4 e5 e6 e7
        clear hb7 hbX HX HTX HAX
        go_wp2_with fail
        refine (tunnel_yes c.a0 c.a1 c.a2 c.a3 c.a4 c.a5 c.a6 c.a7 o0 p0 o1 p1 o6 p6 o7 p7 _ hs7 HT7.out HK.out).mono ?_
        rintro e w8 ⟨rfl, hb8⟩
        have d6 := cell_later hb8 e6
        have d7 := cell_later hb8 e7
        have HB8 : Hid (Below W2.heap.size W2 w8) := (HB.out.trans (HX7.out.mono HB.out.size)).trans (hb8.mono (Nat.le_trans HB.out.size HX7.out.size))
        clear hb8 e0 e1 e2 e3 e4 e5 e6 e7 HX7 HT7 HB
        go_wp2_with (go_at_call 9; refine (be16_any c.a6 c.a7 o6 p6 o7 p7 _).mono ?_; rintro e w9 ⟨rfl, rfl⟩)
        go_roundw
        case rel => exact ⟨k + 1, q, by omega, by omega, by go_num, by go_num, HQ2, HB8⟩
        case measure => simp [intOf]; omega
      · have HQ2 : Hid (q = (oth (cs.take (k + 1))).length) := by show _ = _; rw [oth_no hc (by simpa using hkd.1), HQ.out]
        clear hkd hc HQ
        go_wp2_with fail
        refine (model_any c.a0 c.a1 c.a2 c.a3 c.a4 c.a5 c.a6 c.a7 o1 _).mono ?_
        rintro e w6 ⟨rfl, rfl⟩
        go_wp2_with fail
        refine (zzkind_any c.a0 c.a1 c.a2 c.a3 c.a4 c.a5 c.a6 c.a7 o0 p0 o1 p1 _ (by simp <;> omega) (by exact HTX _ _)).mono ?_
        rintro e w7 ⟨rfl, hb7⟩
        have hbX := (HX _ _).out.trans (hb7.mono (Nat.le_trans (Nat.le_succ _) (by simp)))
        have HX7 : Hid (Below wr.heap.size wr w7) := hbX
        have HT7 : Hid (Tab w7) := HS.out.ready.tab.below hbX hsr
        have hs7 : 1 < w7.heap.size := Nat.lt_of_lt_of_le hsr hbX.size
        obtain ⟨e0, e1, e2, e3, e4, e5, e6, e7⟩ := (HAX _).out.later hb7
        simp only [Nat.zero_add] at e0 e1 e2 e3 e4 e5 e6 e7
        clear hb7 hbX HX HTX HAX
        go_wp2_with fail
        refine (tunnel_no c.a0 c.a1 c.a2 c.a3 c.a4 c.a5 c.a6 c.a7 o0 p0 o1 p1 _ hs7 HT7.out t2).mono ?_
        rintro e w8 ⟨rfl, hb8⟩
        have HB8 : Hid (Below W2.heap.size W2 w8) := (HB.out.trans (HX7.out.mono HB.out.size)).trans (hb8.mono (Nat.le_trans HB.out.size HX7.out.size))
        clear hb8 e0 e1 e2 e3 e4 e5 e6 e7 HX7 HT7 HB
        go_wp2_with fail
        go_roundw
        case rel => exact ⟨k + 1, q, by omega, by omega, by go_num, by go_num, HQ2, HB8⟩
        case measure => simp [intOf]; omega
    · have e : cs.take k = cs := List.take_of_length_le (by rw [HL.out]; omega)
      have HQ2 : Hid (q = (oth cs).length) := by have := HQ.out; rw [e] at this; exact this
      clear e HQ HB HS2
      go_wp2_with fail
      refine (other_ready HS.out.ready Hm HO).mono ?_
      rintro e W3 ⟨v, rfl, hb3, hsv⟩
      have HS3 : Hid (St w W3 P a (.slice a1 n c1) cs v0 v1 v2 v3 v4 v5) := HS.out.later hb3
      obtain ⟨a2, m, cap', rfl, hmm, hoth⟩ := sv_shape hsv
      have hqm : q = m := HQ2.out.trans hmm.symm
      subst hqm
      have HO3 : Hid (q = (oth cs).length ∧ (0 < q → ∃ g, a2 = some ⟨g, 0, none⟩ ∧ g < W3.heap.size ∧ Coms W3 g 0 (oth cs))) := ⟨hmm, hoth⟩
      clear hb3 hsv hmm hoth HQ2 HS
      go_wp2_with fail
      -- LOOP 2: the others, in order
      go_loopw [15, 16] (fun j i wr => ∃ (k r : Nat), k ≤ n ∧ r ≤ k ∧ i = .int .i64 k ∧ j = .int .i64 r ∧ Hid (r = (oth (cs.take k)).length) ∧ Hid (Below W3.heap.size W3 wr)) (fun _ i _ => n - (intOf i).toNat)
      case atStart => exact ⟨0, 0, by omega, by omega, rfl, rfl, rfl, Below.refl _ _⟩
      case round =>
        obtain ⟨k2, r, hk2, hr2, rfl, rfl, HQ, HB⟩ := hrel
        have HS : Hid (St w wr P a (.slice a1 n c1) cs v0 v1 v2 v3 v4 v5) := HS3.out.later HB.out
        by_cases hlt2 : k2 < n
        · obtain ⟨c, hc⟩ : ∃ c, cs[k2]? = some c := ⟨cs[k2]'(by rw [HL.out]; exact hlt2), by simp⟩
          obtain ⟨⟨⟨o0, p0⟩, o1, p1⟩, _⟩ := com_ok (HO.out c (List.mem_of_getElem? hc))
          obtain ⟨b, off, rfl, hco⟩ := HS.out.src (by rw [HL.out]; omega)
          have hA := hco k2 c hc
          clear hco
          have hbw : b < wr.heap.size := hA.lt
          obtain ⟨q0, q1, q2, q3, q4, q5, q6, q7⟩ := hA
          have HBX : ∀ o, Hid (Below W3.heap.size W3 (wr.alloc o)) := fun o => HB.out.alloc HB.out.size o
          cases hkd : (c.kind == 0) with
          | true =>
            have t0 : (Pl.kindI c.a0 c.a1 == 0) = true := hkd
            have hidx := oth_idx hc hkd
            rw [← HQ.out] at hidx
            have HQ2 : Hid (r + 1 = (oth (cs.take (k2 + 1))).length) := by show _ = _; rw [oth_yes hc hkd, HQ.out]; simp
            have hrq : r < q := by rw [HO3.out.1]; exact (List.getElem?_eq_some_iff.1 hidx).1
            obtain ⟨g, hag, hgW, hgc⟩ := HO3.out.2 (by omega)
            subst hag
            have hgr : g < wr.heap.size := Nat.lt_of_lt_of_le hgW HB.out.size
            obtain ⟨y0, y1, y2, y3, y4, y5, y6, y7⟩ := (hgc.below HB.out hgW) r c hidx
            simp only [Nat.zero_add] at y0 y1 y2 y3 y4 y5 y6 y7
            have d1 : decide (q ≤ r) = false := decide_eq_false (by omega)
            have d2 : decide ((q : Int) ≤ (r : Int)) = false := decide_eq_false (by omega)
            have i1 : (r : Int) < (q : Int) := by omega
            have i2 : (k2 : Int) < (n : Int) := by omega
            have hneq := fun (w : World) => neq8 c.a0 c.a1 c.a2 c.a3 c.a4 c.a5 c.a6 c.a7 w
            have hsame := fun (w : World) => same8 c.a0 c.a1 c.a2 c.a3 c.a4 c.a5 c.a6 c.a7 w
            clear hkd hc HQ hgc hidx HB HS
            go_wp2_with fail
            refine (model_any c.a0 c.a1 c.a2 c.a3 c.a4 c.a5 c.a6 c.a7 o1 _).mono ?_
            rintro e w6 ⟨rfl, rfl⟩
            go_wp2_with fail
            go_quiet (fail)
            go_wp2_with fail
            go_roundw
            case rel => exact ⟨k2 + 1, r + 1, by omega, by omega, by go_num, by go_num, HQ2, below_drewN (HBX _).out _⟩
            case measure => simp [intOf]; omega
          | false =>
            have t0 : (Pl.kindI c.a0 c.a1 == 0) = false := hkd
            have HQ2 : Hid (r = (oth (cs.take (k2 + 1))).length) := by show _ = _; rw [oth_no hc hkd, HQ.out]
            clear hkd hc HQ HB HS
            go_wp2_with fail
            refine (model_any c.a0 c.a1 c.a2 c.a3 c.a4 c.a5 c.a6 c.a7 o1 _).mono ?_
            rintro e w6 ⟨rfl, rfl⟩
            go_wp2_with fail
            go_roundw
            case rel => exact ⟨k2 + 1, r, by omega, by omega, by go_num, rfl, HQ2, HBX _⟩
            case measure => simp [intOf]; omega
        · obtain ⟨W4, hW4⟩ : ∃ W4, W4 = wr := ⟨_, rfl⟩
          rw [← hW4] at HS
          rw [← hW4]
          clear hW4 HB HQ HO3 HS3
          go_wp2_with fail
          have hsz4 : 1 < W4.heap.size := HS.out.ready.size
          obtain ⟨c4, b4, hF4⟩ := fst_ex cs 4
          have HF4 : Hid (Fst cs 4 c4 b4) := hF4
          obtain ⟨_, _, ⟨i2, j2⟩, ⟨i3, j3⟩, ⟨i4, j4⟩, ⟨i5, j5⟩, ⟨i6, j6⟩, ⟨i7, j7⟩⟩ := fst_ok hF4 HO.out
          clear hF4
          refine (firstM_gen a n cap 4 cs c4 b4 W4 hn HL HO HS.out.src HF4).mono ?_
          rintro e Wa ⟨rfl, hba⟩
          have HSa : Hid (St w Wa P a (.slice a1 n c1) cs v0 v1 v2 v3 v4 v5) := HS.out.later hba
          clear hba HS
          go_wp2_with fail
          have HSx : ∀ o, Hid (St w (Wa.alloc o) P a (.slice a1 n c1) cs v0 v1 v2 v3 v4 v5) := fun o => HSa.out.later ((Below.refl _ _).alloc (Nat.le_refl _) o)
          refine (mac_ready (HSx _).out.ready c4 b4 Hm HO HF4).mono ?_
          rintro e Wb ⟨rfl, hbb⟩
          have HSb : Hid (St w Wb P a (.slice a1 n c1) cs v0 v1 v2 v3 v4 v5) := (HSx _).out.later hbb
          obtain ⟨e0, e1, e2, e3, e4, e5, e6, e7⟩ := (box_at Wa c4).later hbb
          have hab : Wa.heap.size < Wb.heap.size := World.block_lt_of_cell? _ _ e0
          simp only [Nat.zero_add] at e0 e1 e2 e3 e4 e5 e6 e7
          clear hbb HSx HSa HF4
          go_upto_region 34 with fail
          go_cut [161] from 161 to 161 (fun s wx => s = .bool false ∧ ∃ q, wx = (Wb.alloc (.cells #[.bool (bits .and .u8 c4.a2 1 != 0), .int .u32 (n32 c4.a4 c4.a5 c4.a6 c4.a7)] 54)).drewN q)
          case first =>
            cases b4
            · go_quiet (fail)
              go_wp2_with fail
              go_meet
              exact ⟨rfl, _, rfl⟩
            · go_quiet ((go_at_call 13; exact Calls.quiet_of_same (be32_any _ _ _ _ i4 j4 i5 j5 i6 j6 i7 j7 _)))
              go_wp2_with fail
              go_meet
              exact ⟨rfl, _, rfl⟩
          case rest =>
          obtain ⟨rfl, q1, rfl⟩ := hcut
          obtain ⟨W5, hW5⟩ : ∃ W, W = (Wb.alloc (.cells #[.bool (bits .and .u8 c4.a2 1 != 0), .int .u32 (n32 c4.a4 c4.a5 c4.a6 c4.a7)] 54)).drewN q1 := ⟨_, rfl⟩
          rw [← hW5]
          have HSW5 : Hid (St w W5 P a (.slice a1 n c1) cs v0 v1 v2 v3 v4 v5) := by show St w W5 P a (.slice a1 n c1) cs v0 v1 v2 v3 v4 v5; rw [hW5]; exact HSb.out.later (below_drewN ((Below.refl _ _).alloc (Nat.le_refl _) _) _)
          clear hW5
          clear HSb e0 e1 e2 e3 e4 e5 e6 e7 hab i2 j2 i3 j3 i4 j4 i5 j5 i6 j6 i7 j7
          go_wp2_with fail
          obtain ⟨c5, b5, hF5⟩ := fst_ex cs 5
          have HF5 : Hid (Fst cs 5 c5 b5) := hF5
          obtain ⟨_, _, ⟨i2, j2⟩, ⟨i3, j3⟩, ⟨i4, j4⟩, ⟨i5, j5⟩, ⟨i6, j6⟩, ⟨i7, j7⟩⟩ := fst_ok hF5 HO.out
          clear hF5
          refine (firstM_gen a n cap 5 cs c5 b5 W5 hn HL HO HSW5.out.src HF5).mono ?_
          rintro e Wa ⟨rfl, hba⟩
          have HSa : Hid (St w Wa P a (.slice a1 n c1) cs v0 v1 v2 v3 v4 v5) := HSW5.out.later hba
          clear hba HSW5
          go_wp2_with fail
          have HSx : ∀ o, Hid (St w (Wa.alloc o) P a (.slice a1 n c1) cs v0 v1 v2 v3 v4 v5) := fun o => HSa.out.later ((Below.refl _ _).alloc (Nat.le_refl _) o)
          refine (esi_ready (HSx _).out.ready c5 b5 Hm HO HF5).mono ?_
          rintro e Wb ⟨rfl, hbb⟩
          have HSb : Hid (St w Wb P a (.slice a1 n c1) cs v0 v1 v2 v3 v4 v5) := (HSx _).out.later hbb
          obtain ⟨e0, e1, e2, e3, e4, e5, e6, e7⟩ := (box_at Wa c5).later hbb
          have hab : Wa.heap.size < Wb.heap.size := World.block_lt_of_cell? _ _ e0
          simp only [Nat.zero_add] at e0 e1 e2 e3 e4 e5 e6 e7
          clear hbb HSx HSa HF5
          have hlab : lab c5.a5 c5.a6 c5.a7 = bits .or .u32 (bits .or .u32 (c5.a5 * 65536) (c5.a6 * 256)) c5.a7 := rfl
          go_upto_region 41 with fail
          go_cut [210] from 210 to 210 (fun s wx => s = .bool false ∧ wx = Wb.alloc (.cells #[.int .u8 (bits .and .u8 c5.a2 3), .int .u8 (c5.a2 / 64), .int .u32 (bits .or .u32 (bits .or .u32 (c5.a5 * 65536) (c5.a6 * 256)) c5.a7)] 62))
          case first =>
            cases b5
            · go_wp2_with fail
              go_meet
              exact ⟨rfl, rfl⟩
            · go_wp2_with fail
              go_meet
              exact ⟨rfl, rfl⟩
          case rest =>
          obtain ⟨rfl, rfl⟩ := hcut
          obtain ⟨W6, hW6⟩ : ∃ W, W = (Wb.alloc (.cells #[.int .u8 (bits .and .u8 c5.a2 3), .int .u8 (c5.a2 / 64), .int .u32 (bits .or .u32 (bits .or .u32 (c5.a5 * 65536) (c5.a6 * 256)) c5.a7)] 62)) := ⟨_, rfl⟩
          rw [← hW6]
          have HSW6 : Hid (St w W6 P a (.slice a1 n c1) cs v0 v1 v2 v3 v4 v5) := by show St w W6 P a (.slice a1 n c1) cs v0 v1 v2 v3 v4 v5; rw [hW6]; exact HSb.out.later ((Below.refl _ _).alloc (Nat.le_refl _) _)
          clear hW6
          clear HSb e0 e1 e2 e3 e4 e5 e6 e7 hab i2 j2 i3 j3 i4 j4 i5 j5 i6 j6 i7 j7
          go_wp2_with fail
          obtain ⟨c6, b6, hF6⟩ := fst_ex cs 6
          have HF6 : Hid (Fst cs 6 c6 b6) := hF6
          obtain ⟨_, _, ⟨i2, j2⟩, ⟨i3, j3⟩, ⟨i4, j4⟩, ⟨i5, j5⟩, ⟨i6, j6⟩, ⟨i7, j7⟩⟩ := fst_ok hF6 HO.out
          clear hF6
          refine (firstM_gen a n cap 6 cs c6 b6 W6 hn HL HO HSW6.out.src HF6).mono ?_
          rintro e Wa ⟨rfl, hba⟩
          have HSa : Hid (St w Wa P a (.slice a1 n c1) cs v0 v1 v2 v3 v4 v5) := HSW6.out.later hba
          clear hba HSW6
          go_wp2_with fail
          have HSx : ∀ o, Hid (St w (Wa.alloc o) P a (.slice a1 n c1) cs v0 v1 v2 v3 v4 v5) := fun o => HSa.out.later ((Below.refl _ _).alloc (Nat.le_refl _) o)
          refine (imp_ready (HSx _).out.ready c6 b6 Hm HO HF6).mono ?_
          rintro e Wb ⟨rfl, hbb⟩
          have HSb : Hid (St w Wb P a (.slice a1 n c1) cs v0 v1 v2 v3 v4 v5) := (HSx _).out.later hbb
          obtain ⟨e0, e1, e2, e3, e4, e5, e6, e7⟩ := (box_at Wa c6).later hbb
          have hab : Wa.heap.size < Wb.heap.size := World.block_lt_of_cell? _ _ e0
          simp only [Nat.zero_add] at e0 e1 e2 e3 e4 e5 e6 e7
          clear hbb HSx HSa HF6
          have hneq := fun (w : World) => neq6 c6.a2 c6.a3 c6.a4 c6.a5 c6.a6 c6.a7 w
          have hsame := fun (w : World) => same6 c6.a2 c6.a3 c6.a4 c6.a5 c6.a6 c6.a7 w
          go_upto_region 47 with fail
          go_cut [241] from 241 to 241 (fun s wx => s = .bool false ∧ wx = Wb.alloc (.cells #[.int .u8 c6.a2, .int .u8 c6.a3, .int .u8 c6.a4, .int .u8 c6.a5, .int .u8 c6.a6, .int .u8 c6.a7] 26))
          case first =>
            cases b6
            · go_wp2_with fail
              go_meet
              exact ⟨rfl, rfl⟩
            · go_wp2_with fail
              go_meet
              exact ⟨rfl, rfl⟩
          case rest =>
          obtain ⟨rfl, rfl⟩ := hcut
          obtain ⟨W7, hW7⟩ : ∃ W, W = (Wb.alloc (.cells #[.int .u8 c6.a2, .int .u8 c6.a3, .int .u8 c6.a4, .int .u8 c6.a5, .int .u8 c6.a6, .int .u8 c6.a7] 26)) := ⟨_, rfl⟩
          rw [← hW7]
          have HSW7 : Hid (St w W7 P a (.slice a1 n c1) cs v0 v1 v2 v3 v4 v5) := by show St w W7 P a (.slice a1 n c1) cs v0 v1 v2 v3 v4 v5; rw [hW7]; exact HSb.out.later ((Below.refl _ _).alloc (Nat.le_refl _) _)
          clear hW7
          clear HSb e0 e1 e2 e3 e4 e5 e6 e7 hab i2 j2 i3 j3 i4 j4 i5 j5 i6 j6 i7 j7
          clear hneq hsame
          go_wp2_with fail
          obtain ⟨c7, b7, hF7⟩ := fst_ex cs 7
          have HF7 : Hid (Fst cs 7 c7 b7) := hF7
          obtain ⟨_, _, ⟨i2, j2⟩, ⟨i3, j3⟩, ⟨i4, j4⟩, ⟨i5, j5⟩, ⟨i6, j6⟩, ⟨i7, j7⟩⟩ := fst_ok hF7 HO.out
          clear hF7
          refine (firstM_gen a n cap 7 cs c7 b7 W7 hn HL HO HSW7.out.src HF7).mono ?_
          rintro e Wa ⟨rfl, hba⟩
          have HSa : Hid (St w Wa P a (.slice a1 n c1) cs v0 v1 v2 v3 v4 v5) := HSW7.out.later hba
          clear hba HSW7
          go_wp2_with fail
          have HSx : ∀ o, Hid (St w (Wa.alloc o) P a (.slice a1 n c1) cs v0 v1 v2 v3 v4 v5) := fun o => HSa.out.later ((Below.refl _ _).alloc (Nat.le_refl _) o)
          refine (rmac_ready (HSx _).out.ready c7 b7 Hm HO HF7).mono ?_
          rintro e Wb ⟨rfl, hbb⟩
          have HSb : Hid (St w Wb P a (.slice a1 n c1) cs v0 v1 v2 v3 v4 v5) := (HSx _).out.later hbb
          obtain ⟨e0, e1, e2, e3, e4, e5, e6, e7⟩ := (box_at Wa c7).later hbb
          have hab : Wa.heap.size < Wb.heap.size := World.block_lt_of_cell? _ _ e0
          simp only [Nat.zero_add] at e0 e1 e2 e3 e4 e5 e6 e7
          clear hbb HSx HSa HF7
          have hneq := fun (w : World) => neq6 c7.a2 c7.a3 c7.a4 c7.a5 c7.a6 c7.a7 w
          have hsame := fun (w : World) => same6 c7.a2 c7.a3 c7.a4 c7.a5 c7.a6 c7.a7 w
          go_upto_region 53 with fail
          go_cut [272] from 272 to 272 (fun s wx => s = .bool false ∧ wx = Wb.alloc (.cells #[.int .u8 c7.a2, .int .u8 c7.a3, .int .u8 c7.a4, .int .u8 c7.a5, .int .u8 c7.a6, .int .u8 c7.a7] 26))
          case first =>
            cases b7
            · go_wp2_with fail
              go_meet
              exact ⟨rfl, rfl⟩
            · go_wp2_with fail
              go_meet
              exact ⟨rfl, rfl⟩
          case rest =>
          obtain ⟨rfl, rfl⟩ := hcut
          obtain ⟨W8, hW8⟩ : ∃ W, W = (Wb.alloc (.cells #[.int .u8 c7.a2, .int .u8 c7.a3, .int .u8 c7.a4, .int .u8 c7.a5, .int .u8 c7.a6, .int .u8 c7.a7] 26)) := ⟨_, rfl⟩
          rw [← hW8]
          have HSW8 : Hid (St w W8 P a (.slice a1 n c1) cs v0 v1 v2 v3 v4 v5) := by show St w W8 P a (.slice a1 n c1) cs v0 v1 v2 v3 v4 v5; rw [hW8]; exact HSb.out.later ((Below.refl _ _).alloc (Nat.le_refl _) _)
          clear hW8
          clear HSb e0 e1 e2 e3 e4 e5 e6 e7 hab i2 j2 i3 j3 i4 j4 i5 j5 i6 j6 i7 j7
          clear hneq hsame
          go_wp2_with fail
          obtain ⟨c8, b8, hF8⟩ := fst_ex cs 8
          have HF8 : Hid (Fst cs 8 c8 b8) := hF8
          obtain ⟨_, _, ⟨i2, j2⟩, ⟨i3, j3⟩, ⟨i4, j4⟩, ⟨i5, j5⟩, ⟨i6, j6⟩, ⟨i7, j7⟩⟩ := fst_ok hF8 HO.out
          clear hF8
          refine (firstM_gen a n cap 8 cs c8 b8 W8 hn HL HO HSW8.out.src HF8).mono ?_
          rintro e Wa ⟨rfl, hba⟩
          have HSa : Hid (St w Wa P a (.slice a1 n c1) cs v0 v1 v2 v3 v4 v5) := HSW8.out.later hba
          clear hba HSW8
          go_wp2_with fail
          have HSx : ∀ o, Hid (St w (Wa.alloc o) P a (.slice a1 n c1) cs v0 v1 v2 v3 v4 v5) := fun o => HSa.out.later ((Below.refl _ _).alloc (Nat.le_refl _) o)
          refine (l2_ready (HSx _).out.ready c8 b8 Hm HO HF8).mono ?_
          rintro e Wb ⟨rfl, hbb⟩
          have HSb : Hid (St w Wb P a (.slice a1 n c1) cs v0 v1 v2 v3 v4 v5) := (HSx _).out.later hbb
          obtain ⟨e0, e1, e2, e3, e4, e5, e6, e7⟩ := (box_at Wa c8).later hbb
          have hab : Wa.heap.size < Wb.heap.size := World.block_lt_of_cell? _ _ e0
          simp only [Nat.zero_add] at e0 e1 e2 e3 e4 e5 e6 e7
          clear hbb HSx HSa HF8
          go_upto_region 59 with fail
          go_cut [306] from 306 to 306 (fun s wx => s = .bool false ∧ ∃ q, wx = (Wb.alloc (.cells #[.int .u16 (c8.a2 * 256 + c8.a3), .int .u16 (c8.a4 * 256 + c8.a5)] 70)).drewN q)
          case first =>
            cases b8
            · go_quiet (fail)
              go_wp2_with fail
              go_meet
              exact ⟨rfl, _, rfl⟩
            · go_quiet ((first | (go_at_call_of 9 c8.a2; exact Calls.quiet_of_same (be16_any _ _ i2 j2 i3 j3 _)) | (go_at_call_of 9 c8.a4; exact Calls.quiet_of_same (be16_any _ _ i4 j4 i5 j5 _))))
              go_wp2_with fail
              go_meet
              exact ⟨rfl, _, rfl⟩
          case rest =>
          obtain ⟨rfl, q1, rfl⟩ := hcut
          obtain ⟨W9, hW9⟩ : ∃ W, W = (Wb.alloc (.cells #[.int .u16 (c8.a2 * 256 + c8.a3), .int .u16 (c8.a4 * 256 + c8.a5)] 70)).drewN q1 := ⟨_, rfl⟩
          rw [← hW9]
          have HSW9 : Hid (St w W9 P a (.slice a1 n c1) cs v0 v1 v2 v3 v4 v5) := by show St w W9 P a (.slice a1 n c1) cs v0 v1 v2 v3 v4 v5; rw [hW9]; exact HSb.out.later (below_drewN ((Below.refl _ _).alloc (Nat.le_refl _) _) _)
          clear hW9
          clear HSb e0 e1 e2 e3 e4 e5 e6 e7 hab i2 j2 i3 j3 i4 j4 i5 j5 i6 j6 i7 j7
          go_wp2_with fail
          obtain ⟨c3, b3, hF3⟩ := fst_ex cs 3
          have HF3 : Hid (Fst cs 3 c3 b3) := hF3
          obtain ⟨_, _, ⟨i2, j2⟩, ⟨i3, j3⟩, ⟨i4, j4⟩, ⟨i5, j5⟩, ⟨i6, j6⟩, ⟨i7, j7⟩⟩ := fst_ok hF3 HO.out
          clear hF3
          refine (firstM_gen a n cap 3 cs c3 b3 W9 hn HL HO HSW9.out.src HF3).mono ?_
          rintro e Wa ⟨rfl, hba⟩
          have HSa : Hid (St w Wa P a (.slice a1 n c1) cs v0 v1 v2 v3 v4 v5) := HSW9.out.later hba
          clear hba HSW9
          go_wp2_with fail
          have HSx : ∀ o, Hid (St w (Wa.alloc o) P a (.slice a1 n c1) cs v0 v1 v2 v3 v4 v5) := fun o => HSa.out.later ((Below.refl _ _).alloc (Nat.le_refl _) o)
          refine (gw_ready (HSx _).out.ready c3 b3 Hm HO HF3).mono ?_
          rintro e Wb ⟨rfl, hbb⟩
          have HSb : Hid (St w Wb P a (.slice a1 n c1) cs v0 v1 v2 v3 v4 v5) := (HSx _).out.later hbb
          obtain ⟨e0, e1, e2, e3, e4, e5, e6, e7⟩ := (box_at Wa c3).later hbb
          have hab : Wa.heap.size < Wb.heap.size := World.block_lt_of_cell? _ _ e0
          simp only [Nat.zero_add] at e0 e1 e2 e3 e4 e5 e6 e7
          clear hbb HSx HSa HF3
          clear e0 e1 e2 e3 e4 e5 e6 e7 hab i2 j2 i3 j3 i4 j4 i5 j5 i6 j6 i7 j7
          go_wp2_with fail
          refine (encap_any t ht0 ht1 _).mono ?_
          rintro e Wc ⟨rfl, hbc⟩
          have HSc : Hid (St w Wc P a (.slice a1 n c1) cs v0 v1 v2 v3 v4 v5) := HSb.out.later hbc
          clear hbc HSb
          go_wp2_with fail
          refine (tunnel_yes 3 12 0 0 0 0 (t / 256) (t % 256) (by omega) (by omega) (by omega) (by omega) (by omega) (by omega) (by omega) (by omega) _ HSc.out.ready.size HSc.out.ready.tab (by decide)).mono ?_
          rintro e Wd ⟨rfl, hbd⟩
          have htt : t / 256 * 256 + t % 256 = t := by omega
          rw [htt]
          have HSd : Hid (St w Wd P a (.slice a1 n c1) cs v0 v1 v2 v3 v4 v5) := HSc.out.later hbd
          clear hbd HSc htt
          obtain ⟨f0, f1, f2, f3, f4, f5⟩ := HSd.out.box
          have hvw : w.heap.size < Wd.heap.size := World.block_lt_of_cell? _ _ f0
          go_wp2_with fail
          refine (esimport_any v0 v1 v2 v3 v4 v5 _).mono ?_
          rintro e We ⟨rfl, hbe⟩
          have HSe : Hid (St w We P a (.slice a1 n c1) cs v0 v1 v2 v3 v4 v5) := HSd.out.later hbe
          clear hbe HSd f0 f1 f2 f3 f4 f5 hvw
          go_wp2_with fail
          refine (one_imp v0 v1 v2 v3 v4 v5 Hv We HSe.out.ready.size HSe.out.ready.tab).mono ?_
          rintro e Wf ⟨rfl, hbf⟩
          have HSf : Hid (St w Wf P a (.slice a1 n c1) cs v0 v1 v2 v3 v4 v5) := HSe.out.later hbf
          clear hbf HSe
          obtain ⟨f0, f1, f2, f3, f4, f5⟩ := HSf.out.box
          have hvw : w.heap.size < Wf.heap.size := World.block_lt_of_cell? _ _ f0
          have heql := fun (w : World) => eql6 v0 v1 v2 v3 v4 v5 w
          have hsame := fun (w : World) => same6 v0 v1 v2 v3 v4 v5 w
          have HBl : ∀ o, Hid (Below w.heap.size w (Wf.alloc o)) := fun o => HSf.out.below.alloc HSf.out.below.size o
          clear HSf
          go_wp2_with fail
          go_ret
          exact ⟨rfl, (HBl _).out⟩

end Go.Proofs.Qxb6003712aDoor
