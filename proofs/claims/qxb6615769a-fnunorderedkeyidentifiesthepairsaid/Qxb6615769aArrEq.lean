import Derived.Test.Qxb6615769aPairs
import Derived.ChangeKeysEq
namespace Go.Proofs.Qxb6615769a
open Go.RowKit
theorem info3 : (Try.prog.info? 3).map (fun i => (i.zero, i.size, i.bytes)) = some (some (.int .i64 0), 1, 8) := by kernel_rfl
theorem cells3 : Try.prog.cellsOf 3 = 1 := by kernel_rfl
theorem part0 (x y : Int) (w : World) : (part 3 #[.int .i64 x, .int .i64 y] 0).run Try.prog w = .ok (.int .i64 x) w := by kernel_rfl
theorem part1 (x y : Int) (w : World) : (part 3 #[.int .i64 x, .int .i64 y] 1).run Try.prog w = .ok (.int .i64 y) w := by kernel_rfl
theorem eqi (a b : Int) (w : World) : (Op.equalIn 9999 3 (.int .i64 a) (.int .i64 b)).run Try.prog w = .ok (a == b) w := run_equalIn_int w 9998 3 .i64 .i64 a b Try.underlying3
theorem arrEq (x y x' y' : Int) (w : World) : (Op.equalIn 10000 22 (.agg #[.int .i64 x, .int .i64 y]) (.agg #[.int .i64 x', .int .i64 y'])).run Try.prog w = .ok (x == x' && y == y') w := by
  obtain ⟨i, hi, _, _, _⟩ := info_parts info3
  rw [run_equalIn_array w 9999 _ _ Try.underlying22 hi, cells3]
  have e : List.range 2 = [0, 1] := rfl
  rw [e]
  simp only [Op.eqItems, Sem.run_bind, Nat.zero_mul, Nat.one_mul, part0, Result.andThen_ok, eqi]
  cases (x == x')
  · simp
  · simp only [Bool.not_true, Bool.false_eq_true, if_false, Sem.run_bind, part1, Result.andThen_ok, eqi, Bool.true_and]
    cases (y == y') <;> rfl
theorem eqlArr (x y x' y' : Int) (w : World) : (binOp .eql 22 (.agg #[.int .i64 x, .int .i64 y]) (.agg #[.int .i64 x', .int .i64 y'])).run Try.prog w = .ok (.bool (x == x' && y == y')) w := by
  rw [run_eql_struct, arrEq]; rfl
theorem neqArr (x y x' y' : Int) (w : World) : (binOp .neq 22 (.agg #[.int .i64 x, .int .i64 y]) (.agg #[.int .i64 x', .int .i64 y'])).run Try.prog w = .ok (.bool (!(x == x' && y == y'))) w := by
  rw [run_neq_struct, arrEq]; rfl
end Go.Proofs.Qxb6615769a
