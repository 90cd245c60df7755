/-
  THE TWO LOOPS OVER THE ITERATOR (seat b6003712aD): LabelsHoldVNIs, fixesSplitHorizon.
-/
import Derived.Test.Qxb6003712aDoorIter
namespace Go.Proofs.Qxb6003712aDoor
open Go.RowKit Go.Shelf
set_option linter.unusedVariables false
attribute [local go_sem] Oper.semAt_some

set_option maxRecDepth 100000 in
set_option maxHeartbeats 1000000 in
/-- The closure at the nil slice: no round. -/
theorem iter_nil (n l Bs Pp : Nat) (J : List Int → World → Prop) (W : World) (hBs : W.cell? ⟨Bs, 0, none⟩ = some (.pointer (some ⟨Pp, 0, none⟩))) (hP : W.cell? ⟨Pp, 3, none⟩ = some (.slice none 0 0)) (h0 : J [] W) :
    CallsIn Fence.wide n Tryd.prog 31 #[.func (.yield l) #[] #[], .pointer (some ⟨Bs, 0, none⟩)] W fun e W' => (∃ v, e = .returned v) ∧ J [] W' := by
  refine callsIn_of_wp Tryd.func31 rfl trivial ?_ rfl
  simp only [Tryd.ntmps31, List.size_toArray, List.length_cons, List.length_nil, Nat.reduceAdd, Nat.reduceSub, Array.replicate_succ, Array.replicate_zero, List.push_toArray, List.append_toArray, List.nil_append, List.cons_append]
  gi_wp2
  gi_loopw [12] (fun i wr => i = .int .i64 0 ∧ J [] wr) (fun _ _ => 0)
  case atStart => exact ⟨rfl, h0⟩
  case round =>
    obtain ⟨rfl, hJs⟩ := hrel
    gi_wp2
    go_end0
    exact ⟨⟨_, rfl⟩, hJs⟩

set_option maxHeartbeats 1000000 in
/-- TunnelTypes: the receiver is boxed; the function value captures the box. -/
theorem tunnelTypes_in (n : Nat) (v : Option Addr) (w : World) :
    CallsIn Fence.wide n Tryd.prog 29 #[.pointer v] w fun e w' => e = .returned (.func (.func 31) #[] #[.pointer (some ⟨w.heap.size, 0, none⟩)]) ∧ w' = w.alloc (.cells #[.pointer v] 27) := by
  refine callsIn_of_wp Tryd.func29 rfl trivial ?_ rfl
  simp only [Tryd.ntmps29, List.size_toArray, List.length_cons, List.length_nil, Nat.reduceAdd, Nat.reduceSub, Array.replicate_succ, Array.replicate_zero, List.push_toArray, List.append_toArray, List.nil_append, List.cons_append]
  gi_wp2
  go_ret
  exact ⟨rfl, rfl⟩

/-- The slice value sv holds the communities cs, in a block below n₀; or it is nil and there are none. -/
def Sv (n₀ : Nat) (W : World) (sv : Value) (cs : List Pl.Com) : Prop :=
  (sv = .slice none 0 0 ∧ cs = []) ∨ ∃ g cap, sv = .slice (some ⟨g, 0, none⟩) cs.length cap ∧ g < n₀ ∧ Coms W g 0 cs
theorem Sv.below {n₀ : Nat} {A B : World} (h : Below n₀ A B) {sv : Value} {cs : List Pl.Com} : Sv n₀ A sv cs → Sv n₀ B sv cs
  | .inl e => .inl e
  | .inr ⟨g, cap, e, hb, hc⟩ => .inr ⟨g, cap, e, hb, hc.below h hb⟩

/-- TunnelTypes hands back a value that yields just the tunnel types, in order; or a beginning of them. -/
theorem tunnels_stop (n : Nat) (hn : 1 ≤ n) (Bs Pp n₀ : Nat) (sv : Value) (cs : List Pl.Com) (hm : cs.length ≤ 1048576) (hok : ∀ c ∈ cs, c.ok) (h1 : 1 < n₀) (w : World) (hBs : Bs < w.heap.size) (hPp : Pp < w.heap.size) (hn₀ : n₀ ≤ w.heap.size)
    (hc : w.cell? ⟨Bs, 0, none⟩ = some (.pointer (some ⟨Pp, 0, none⟩))) (hp : w.cell? ⟨Pp, 3, none⟩ = some sv) (hS : Sv n₀ w sv cs) (ht : Tab w) :
    SeqStopsK Fence.wide n Tryd.prog 31 #[.pointer (some ⟨Bs, 0, none⟩)] (fun x : Int => #[Value.int .u16 x]) (Below n₀) (fun ys => ys = tts cs) (fun pre => pre <+: tts cs) (tts cs).length w := fun l J Jx W hW hJ _ hY h0 => by
  have hc' := (hW.cell (p := ⟨Bs, 0, none⟩) hBs).trans hc
  have hp' := (hW.cell (p := ⟨Pp, 3, none⟩) hPp).trans hp
  rcases hS.below (hW.mono hn₀) with ⟨rfl, rfl⟩ | ⟨g, cap, rfl, hb, hcs⟩
  · exact (iter_nil n l Bs Pp J W hc' hp' h0).mono fun e W' ⟨he, hj⟩ => ⟨he, .inl ⟨_, rfl, hj⟩⟩
  · exact iter_some n l Bs Pp g cs.length cap n₀ cs hm hb h1 rfl hok J Jx hn hY W (Nat.le_trans hn₀ hW.size) hJ hc' hp' hcs (ht.below (hW.mono hn₀) h1) h0

/-- A tunnel type whose labels are VNIs. -/
def vni (t : Int) : Bool := decide (t = 8 ∨ t = 9 ∨ t = 12 ∨ t = 19)
def lhv (ts : List Int) : Bool := !ts.isEmpty && ts.all vni
/-- A tunnel type that fixes the split-horizon type. -/
def fx (t : Int) : Bool := decide (t = 8 ∨ t = 9 ∨ t = 10)
def fsh (ts : List Int) : Bool := ts.isEmpty || ts.any fx

theorem vni_yes {t : Int} (h : vni t = true) : t = 8 ∨ t = 9 ∨ t = 12 ∨ t = 19 := by simpa [vni] using h
theorem vni_no {t : Int} (h : vni t = false) : (t == 8) = false ∧ (t == 9) = false ∧ (t == 12) = false ∧ (t == 19) = false := by simp [vni] at h; simp; omega
theorem fx_yes {t : Int} (h : fx t = true) : t = 8 ∨ t = 9 ∨ t = 10 := by simpa [fx] using h
theorem fx_no {t : Int} (h : fx t = false) : (t == 8) = false ∧ (t == 9) = false ∧ (t == 10) = false := by simp [fx] at h; simp; omega

theorem lhv_all {ts : List Int} (h : ∀ y ∈ ts, vni y = true) : (!ts.isEmpty) = lhv ts := by
  have e : ts.all vni = true := List.all_eq_true.2 h
  unfold lhv; rw [e]; simp
theorem lhv_stop {pre ts : List Int} (hp : pre <+: ts) (h : ∃ y ∈ pre, vni y = false) : false = lhv ts := by
  obtain ⟨y, hy, hn⟩ := h
  have e : ts.all vni = false := by
    rw [List.all_eq_false]
    exact ⟨y, hp.subset hy, by rw [hn]; decide⟩
  unfold lhv; rw [e]; simp
theorem fsh_none {ts : List Int} (h : ∀ y ∈ ts, fx y = false) : (!(!ts.isEmpty)) = fsh ts := by
  have e : ts.any fx = false := by rw [List.any_eq_false]; intro y hy; rw [h y hy]; decide
  unfold fsh; rw [e]; simp
theorem fsh_stop {pre ts : List Int} (hp : pre <+: ts) (h : ∃ y ∈ pre, fx y = true) : true = fsh ts := by
  obtain ⟨y, hy, hn⟩ := h
  have e : ts.any fx = true := List.any_eq_true.2 ⟨y, hp.subset hy, hn⟩
  unfold fsh; rw [e]; simp

theorem all_snoc {p : Int → Bool} {b : Bool} {pre : List Int} {x : Int} (h : ∀ y ∈ pre, p y = b) (hx : p x = b) : ∀ y ∈ pre ++ [x], p y = b := fun y hy =>
  (List.mem_append.1 hy).elim (h y) (fun e => by simp at e; subst e; exact hx)

/-! Cells of a new block of one cell, and of old ones behind a new block. -/
theorem new_cell (W : World) (v : Value) (t : TypeId) : (W.alloc (.cells #[v] t)).cell? ⟨W.heap.size, 0, none⟩ = some v ∧ (W.alloc (.cells #[v] t)).frozen? ⟨W.heap.size, 0, none⟩ = false := by
  have hg := heap_alloc_new W (.cells #[v] t)
  exact ⟨by rw [cell_of_row _ _ _ _ _ _ hg]; rfl, frozen_of_row _ _ _ _ _ hg⟩
theorem old_cell {W : World} {a : Addr} {v : Value} (o : Obj) (h : W.cell? a = some v) : (W.alloc o).cell? a = some v :=
  cell_later ((Below.refl _ _).alloc (Nat.le_refl _) o) h
theorem old_free {W : World} {a : Addr} {v : Value} (o : Obj) (h : W.cell? a = some v) (hf : W.frozen? a = false) : (W.alloc o).frozen? a = false :=
  (((Below.refl W.heap.size W).alloc (Nat.le_refl _) o).frozen (World.block_lt_of_cell? _ _ h)).trans hf

end Go.Proofs.Qxb6003712aDoor
