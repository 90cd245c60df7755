/-
  THE ITERATOR OF SEAT b6003712aD: (*Attributes).TunnelTypes and its closure: its contract (shelf: a range over a function).
-/
import Derived.RangeFuncNested
import Derived.RangeFuncBound
import Derived.RangeFuncCalls
import Derived.RangeFuncLeaves
import Derived.Shelf.Abstract
import Derived.Shelf.RegionOpen
import Derived.WalkKit
import Derived.OwnWalkIn
import Derived.TacticsInMore
import Derived.LoopNIn
import Derived.LoopIn
import Derived.Test.Qxb6003712aDoorMem
namespace Go.Proofs.Qxb6003712aDoor
open Go.RowKit Go.Shelf
set_option linter.unusedVariables false
attribute [local go_sem] Oper.semAt_some

/-- The tunnel types that the Encapsulation communities name. -/
def tts (cs : List Pl.Com) : List Int := (cs.filter fun c => c.kind == 2).map Pl.Com.tt

theorem tts_take_yes {cs : List Pl.Com} {k : Nat} {c : Pl.Com} (h : cs[k]? = some c) (hk : c.kind = 2) : tts (cs.take (k + 1)) = tts (cs.take k) ++ [c.tt] := by
  rw [List.take_add_one, h]
  simp [tts, hk]
theorem tts_take_no {cs : List Pl.Com} {k : Nat} {c : Pl.Com} (h : cs[k]? = some c) (hk : (c.kind == 2) = false) : tts (cs.take (k + 1)) = tts (cs.take k) := by
  rw [List.take_add_one, h]
  simp [tts, hk]
theorem tts_split (cs : List Pl.Com) (k : Nat) : tts cs = tts (cs.take k) ++ tts (cs.drop k) := by
  unfold tts
  rw [← List.map_append, ← List.filter_append, List.take_append_drop]
theorem tts_lt {cs : List Pl.Com} {k : Nat} {c : Pl.Com} (h : cs[k]? = some c) (hk : c.kind = 2) : (tts (cs.take k)).length < (tts cs).length := by
  rw [tts_split cs (k + 1), tts_take_yes h hk]; simp
theorem tts_prefix (cs : List Pl.Com) (k : Nat) : tts (cs.take k) <+: tts cs := ⟨tts (cs.drop k), (tts_split cs k).symm⟩

theorem abides_below {β : Type} {J : β → World → Prop} {B : Nat} (h : AbidesFrom B J) {s : β} {W W' : World} (hs : J s W) (hb : Below W.heap.size W W') : J s W' :=
  h s W W' none hs ⟨hb.os, hb.tape, hb.output, hb.size, fun k hk _ => hb.block k hk⟩ (fun r e => by cases e)

theorem com_ok {c : Pl.Com} (h : c.ok) : ((0 ≤ c.a0 ∧ c.a0 ≤ 255) ∧ (0 ≤ c.a1 ∧ c.a1 ≤ 255)) ∧ ((0 ≤ c.a6 ∧ c.a6 ≤ 255) ∧ (0 ≤ c.a7 ∧ c.a7 ≤ 255)) := by
  obtain ⟨h0, h1, _, _, _, _, h6, h7⟩ := h
  exact ⟨⟨h0, h1⟩, h6, h7⟩

set_option maxRecDepth 100000 in
set_option maxHeartbeats 2000000 in
/-- The closure: it yields the tunnel type of each Encapsulation community, in order. -/
theorem iter_some (n l Bs Pp g len cap n₀ : Nat) (cs : List Pl.Com) (hm : len ≤ 1048576) (hg : g < n₀) (h1 : 1 < n₀) (HL : Hid (cs.length = len)) (HO : Hid (∀ c ∈ cs, c.ok)) (J Jx : List Int → World → Prop) (hn : 1 ≤ n)
    (hY : ∀ pre x W, J pre W → pre.length < (tts cs).length → YieldAt Fence.wide (n - 1) Tryd.prog l #[.int .u16 x] W fun e W' =>
      (e = .returned (.bool true) ∧ J (pre ++ [x]) W' ∧ Below n₀ W W') ∨ (e = .returned (.bool false) ∧ Jx (pre ++ [x]) W'))
    (W : World) (hW : n₀ ≤ W.heap.size) (HJ : Hid (AbidesFrom W.heap.size J)) (hBs : W.cell? ⟨Bs, 0, none⟩ = some (.pointer (some ⟨Pp, 0, none⟩))) (hP : W.cell? ⟨Pp, 3, none⟩ = some (.slice (some ⟨g, 0, none⟩) len cap)) (HC : Hid (Coms W g 0 cs)) (HT : Hid (Tab W)) (h0 : J [] W) :
    CallsIn Fence.wide n Tryd.prog 31 #[.func (.yield l) #[] #[], .pointer (some ⟨Bs, 0, none⟩)] W fun e W' => (∃ v, e = .returned v) ∧
      ((∃ ys, ys = tts cs ∧ J ys W') ∨ (∃ pre, pre <+: tts cs ∧ Jx pre W')) := by
  refine callsIn_of_wp Tryd.func31 rfl trivial ?_ rfl
  simp only [Tryd.ntmps31, List.size_toArray, List.length_cons, List.length_nil, Nat.reduceAdd, Nat.reduceSub, Array.replicate_succ, Array.replicate_zero, List.push_toArray, List.append_toArray, List.nil_append, List.cons_append]
  gi_wp2
  gi_loopw [12] (fun i wr => ∃ k : Nat, k ≤ len ∧ i = .int .i64 k ∧ Hid (J (tts (cs.take k)) wr) ∧ Hid (Below n₀ W wr)) (fun i _ => len - (intOf i).toNat)
  case atStart => exact ⟨0, Nat.zero_le _, rfl, h0, Below.refl _ _⟩
  case round =>
    obtain ⟨k, hk, rfl, hJs, hnx⟩ := hrel
    by_cases hlt : k < len
    · obtain ⟨c, hc⟩ : ∃ c, cs[k]? = some c := ⟨cs[k]'(by rw [HL.out]; exact hlt), by simp⟩
      have hok := com_ok (HO.out c (List.mem_of_getElem? hc))
      obtain ⟨⟨⟨o0, p0⟩, o1, p1⟩, ⟨o6, p6⟩, o7, p7⟩ := hok
      obtain ⟨q0, q1, q2, q3, q4, q5, q6, q7⟩ := (HC.out.below hnx.out hg) k c hc
      rw [Nat.zero_add] at q0 q1 q2 q3 q4 q5 q6 q7
      have HT' : Hid (Tab wr) := HT.out.below hnx.out h1
      have hsz : n₀ ≤ wr.heap.size := Nat.le_trans hW hnx.out.size
      have HA : ∀ o, Hid (Tab (wr.alloc o)) := fun o => HT'.out.below ((Below.refl wr.heap.size wr).alloc (Nat.le_refl _) o) (by omega)
      have HBA : ∀ o W2, Hid (Below (wr.alloc o).heap.size (wr.alloc o) W2 → Below wr.heap.size wr W2) := fun o W2 hb => ((Below.refl wr.heap.size wr).alloc (Nat.le_refl _) o).trans (hb.mono (by simp))
      clear HT'
      by_cases hkd : c.kind = 2
      · have hlen := tts_lt hc hkd
        have HY : Hid (tts (cs.take (k + 1)) = tts (cs.take k) ++ [c.a6 * 256 + c.a7]) := tts_take_yes hc hkd
        have Hlen : Hid ((tts (cs.take k)).length < (tts cs).length) := hlen
        have HK : Hid (Pl.kindI c.a0 c.a1 = 2) := hkd
        clear hlen hkd hc
        gi_wp2_with (refine ⟨trivial, ?_⟩; gi_at_call 8; refine (callsIn_wide.2 (tunnel_yes c.a0 c.a1 c.a2 c.a3 c.a4 c.a5 c.a6 c.a7 o0 p0 o1 p1 o6 p6 o7 p7 _ (by simp; omega) (by exact HA _) HK.out)).mono ?_; rintro e W2 ⟨rfl, hb2⟩; have hb3 := (HBA _ _).out hb2; obtain ⟨fn, tmps, assign, body, hy, hR⟩ := hY _ (c.a6 * 256 + c.a7) W2 (abides_below HJ.out hJs.out hb3) Hlen.out; have Hb3 : Hid _ := hb3; clear hb2 hb3)
        refine hR.mono ?_
        rintro e W3 (⟨rfl, hJ3, hk3⟩ | ⟨rfl, hJx3⟩)
        · gi_wp2
          go_roundw
          case rel => exact ⟨k + 1, by omega, by simp, (show J _ _ by rw [HY.out]; exact hJ3), (hnx.out.trans (Hb3.out.mono hsz)).trans hk3⟩
          case measure => simp [intOf]; omega
        · gi_wp2
          refine bodyPost_ret (results_none rfl _ _ _) rfl ?_
          exact ⟨⟨_, rfl⟩, .inr ⟨_, (show _ <+: _ by rw [← HY.out]; exact tts_prefix _ _), hJx3⟩⟩
      · have HY : Hid (tts (cs.take (k + 1)) = tts (cs.take k)) := tts_take_no hc (by simpa using hkd)
        have HK : Hid ((Pl.kindI c.a0 c.a1 == 2) = false) := by show _ = _; simpa [Pl.Com.kind] using hkd
        clear hkd hc
        gi_wp2_with (refine ⟨trivial, ?_⟩; gi_at_call 8; refine (callsIn_wide.2 (tunnel_no c.a0 c.a1 c.a2 c.a3 c.a4 c.a5 c.a6 c.a7 o0 p0 o1 p1 _ (by simp; omega) (by exact HA _) HK.out)).mono ?_; rintro e W2 ⟨rfl, hb2⟩; have Hb3 : Hid _ := (HBA _ _).out hb2; clear hb2)
        refine ⟨fun _ h => (by cases h), ?_⟩
        gi_wp2
        go_roundw
        case rel => exact ⟨k + 1, by omega, by simp, (show J _ _ by rw [HY.out]; exact abides_below HJ.out hJs.out Hb3.out), hnx.out.trans (Hb3.out.mono hsz)⟩
        case measure => simp [intOf]; omega
    · gi_wp2
      go_end0
      exact ⟨⟨_, rfl⟩, .inl ⟨_, by rw [List.take_of_length_le (by rw [HL.out]; omega)], hJs.out⟩⟩

end Go.Proofs.Qxb6003712aDoor
