/-
  Two equal arrays of four words compare as equal.
-/
import Derived.Test.YbulkdbboBits
import Derived.Laws.StructEq
namespace Go.Proofs.Ybulkdbbo
open Go.RowKit Go.Lib

theorem size22 (w : World) : (sizeOf 22).run Yba.prog w = .ok 1 w := by kernel_rfl

/-- The cells of a list of words. -/
def cellsOf (xs : List Int) : Array Value := (xs.map fun x => Value.int .u64 x).toArray

/-- Two arrays of four words that hold the same words are equal. -/
theorem run_equal_same (d : Nat) (xs : List Int) (hx : xs.length = 4) (w : World) :
    (Op.equalIn (d + 2) 23 (.agg (cellsOf xs)) (.agg (cellsOf xs))).run Yba.prog w = .ok true w := by
  rw [Op.equalIn]
  simp only [Sem.run_bind, run_underlying Yba.underlying23, Result.andThen_ok, size22, Std.Legacy.Range.forIn_eq_forIn_range', Std.Legacy.Range.size, Nat.sub_zero, Nat.add_sub_cancel, Nat.div_one]
  have hl : ∀ i ∈ List.range' 0 4 1, i < 4 := fun i hi => by simpa using (List.mem_range'_1.1 hi).2
  generalize List.range' 0 4 1 = l at hl ⊢
  induction l with
  | nil => simp
  | cons i l ih =>
    have hi : i < 4 := hl i (by simp)
    have px : (part 22 (cellsOf xs) (i * 1)).run Yba.prog w = .ok (.int .u64 (xs.getD i 0)) w := by
      simp [cellsOf, part, isAgg, run_underlying Yba.underlying22, List.getD, List.getElem?_eq_getElem (show i < xs.length by omega)]
    have pe : (Op.equalIn (d + 1) 22 (.int .u64 (xs.getD i 0)) (.int .u64 (xs.getD i 0))).run Yba.prog w = .ok true w := by
      rw [run_equalIn_int w d 22 .u64 .u64 _ _ Yba.underlying22]
      simp
    simp only [List.forIn_cons, Sem.run_bind, px, pe, Result.andThen_ok]
    simp only [Bool.not_true, Bool.false_eq_true, if_false, Sem.run_pure, Result.andThen_ok]
    exact ih fun j hj => hl j (by simp [hj])

theorem equal4 (x0 x1 x2 x3 : Int) (w : World) : (Op.equalIn 10000 23 (.agg #[.int .u64 x0, .int .u64 x1, .int .u64 x2, .int .u64 x3]) (.agg #[.int .u64 x0, .int .u64 x1, .int .u64 x2, .int .u64 x3])).run Yba.prog w = .ok true w :=
  run_equal_same 9998 [x0, x1, x2, x3] rfl w
theorem eql4 (x0 x1 x2 x3 : Int) (w : World) : (binOp .eql 23 (.agg #[.int .u64 x0, .int .u64 x1, .int .u64 x2, .int .u64 x3]) (.agg #[.int .u64 x0, .int .u64 x1, .int .u64 x2, .int .u64 x3])).run Yba.prog w = .ok (.bool true) w := by
  rw [run_eql_struct, equal4]; rfl
theorem guard23 : Yba.prog.eqGuardType Yba.prog.depth 23 = false := by kernel_rfl
end Go.Proofs.Ybulkdbbo
