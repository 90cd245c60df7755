/-
  Arrays of octets against themselves (seat b6003712aD).
-/
import Derived.Test.Qxb6003712aDoorOther
import Derived.Test.Qxb6003712aDoorRead3
import Derived.Test.Qxb6003712aDoorMake
import Derived.Laws.StructEq
namespace Go.Proofs.Qxb6003712aDoor
open Go.RowKit
set_option linter.unusedVariables false

theorem equal_same {P : Program} (w : World) (d : Nat) (t e : TypeId) (n : Nat) (ht : P.underlying t = some (.array n e)) (he : P.underlying e = some (.int .u8)) (hsz : ∀ w, (sizeOf e).run P w = .ok 1 w) (zs : List Int) (hz : zs.length = n) :
    (Op.equalIn (d + 2) t (.agg (zs.map (Value.int .u8)).toArray) (.agg (zs.map (Value.int .u8)).toArray)).run P w = .ok true w := by
  rw [Op.equalIn]
  simp only [Sem.run_bind, run_underlying ht, Result.andThen_ok, hsz, Std.Legacy.Range.forIn_eq_forIn_range', Std.Legacy.Range.size, Nat.sub_zero, Nat.add_sub_cancel, Nat.div_one]
  have hl : ∀ i ∈ List.range' 0 n 1, i < n := fun i hi => by simpa using (List.mem_range'_1.1 hi).2
  generalize List.range' 0 n 1 = l at hl ⊢
  induction l with
  | nil => simp
  | cons i l ih =>
    have hi : i < n := hl i (by simp)
    have px : (part e (zs.map (Value.int .u8)).toArray (i * 1)).run P w = .ok (.int .u8 (zs.getD i 0)) w := by
      simp [part, isAgg, run_underlying he, List.getD, List.getElem?_eq_getElem (show i < zs.length by omega)]
    have pe : (Op.equalIn (d + 1) e (.int .u8 (zs.getD i 0)) (.int .u8 (zs.getD i 0))).run P w = .ok true w := by
      rw [run_equalIn_int w d e .u8 .u8 _ _ he]
      simp
    simp only [List.forIn_cons, Sem.run_bind, px, pe, Result.andThen_ok]
    simp only [Bool.not_true, Bool.false_eq_true, if_false, Sem.run_pure, Result.andThen_ok]
    exact ih fun j hj => hl j (by simp [hj])

theorem size5 (w : World) : (sizeOf 5).run Tryd.prog w = .ok 1 w := by kernel_rfl

theorem same8 (x0 x1 x2 x3 x4 x5 x6 x7 : Int) (w : World) :
    (Op.equalIn 10000 45 (.agg #[.int .u8 x0, .int .u8 x1, .int .u8 x2, .int .u8 x3, .int .u8 x4, .int .u8 x5, .int .u8 x6, .int .u8 x7]) (.agg #[.int .u8 x0, .int .u8 x1, .int .u8 x2, .int .u8 x3, .int .u8 x4, .int .u8 x5, .int .u8 x6, .int .u8 x7])).run Tryd.prog w = .ok true w :=
  equal_same w 9998 45 5 8 Tryd.underlying45 Tryd.underlying5 size5 [x0, x1, x2, x3, x4, x5, x6, x7] rfl
theorem same6 (x0 x1 x2 x3 x4 x5 : Int) (w : World) :
    (Op.equalIn 10000 26 (.agg #[.int .u8 x0, .int .u8 x1, .int .u8 x2, .int .u8 x3, .int .u8 x4, .int .u8 x5]) (.agg #[.int .u8 x0, .int .u8 x1, .int .u8 x2, .int .u8 x3, .int .u8 x4, .int .u8 x5])).run Tryd.prog w = .ok true w :=
  equal_same w 9998 26 5 6 Tryd.underlying26 Tryd.underlying5 size5 [x0, x1, x2, x3, x4, x5] rfl
theorem neq8 (x0 x1 x2 x3 x4 x5 x6 x7 : Int) (w : World) :
    (binOp .neq 45 (.agg #[.int .u8 x0, .int .u8 x1, .int .u8 x2, .int .u8 x3, .int .u8 x4, .int .u8 x5, .int .u8 x6, .int .u8 x7]) (.agg #[.int .u8 x0, .int .u8 x1, .int .u8 x2, .int .u8 x3, .int .u8 x4, .int .u8 x5, .int .u8 x6, .int .u8 x7])).run Tryd.prog w = .ok (.bool false) w := by
  rw [run_neq_struct, same8]; rfl
theorem neq6 (x0 x1 x2 x3 x4 x5 : Int) (w : World) :
    (binOp .neq 26 (.agg #[.int .u8 x0, .int .u8 x1, .int .u8 x2, .int .u8 x3, .int .u8 x4, .int .u8 x5]) (.agg #[.int .u8 x0, .int .u8 x1, .int .u8 x2, .int .u8 x3, .int .u8 x4, .int .u8 x5])).run Tryd.prog w = .ok (.bool false) w := by
  rw [run_neq_struct, same6]; rfl
theorem eql6 (x0 x1 x2 x3 x4 x5 : Int) (w : World) :
    (binOp .eql 26 (.agg #[.int .u8 x0, .int .u8 x1, .int .u8 x2, .int .u8 x3, .int .u8 x4, .int .u8 x5]) (.agg #[.int .u8 x0, .int .u8 x1, .int .u8 x2, .int .u8 x3, .int .u8 x4, .int .u8 x5])).run Tryd.prog w = .ok (.bool true) w := by
  rw [run_eql_struct, same6]; rfl

end Go.Proofs.Qxb6003712aDoor
