/-
  '==' over two arrays of eight integers that are the same.
-/
import Derived.Test.Qxb6601738aSet
import Derived.ChangeKeysEq
import Derived.Laws.StructEq
set_option linter.unusedSimpArgs false
set_option linter.unusedVariables false
namespace Go.Proofs.Qxb6601738a
open Go.RowKit

theorem cellsOf21 : Try.prog.cellsOf 21 = 1 := by kernel_rfl
theorem info21 : ∃ i, Try.prog.info? 21 = some i := Option.isSome_iff_exists.1 (by kernel_rfl)

theorem eql_parts (a b c d e f g h : Int) (w : World) : (binOp .eql 26 (.agg #[.int .i32 a, .int .i32 b, .int .i32 c, .int .i32 d, .int .i32 e, .int .i32 f, .int .i32 g, .int .i32 h]) (.agg #[.int .i32 a, .int .i32 b, .int .i32 c, .int .i32 d, .int .i32 e, .int .i32 f, .int .i32 g, .int .i32 h])).run Try.prog w = .ok (.bool true) w := by
  obtain ⟨i, hi⟩ := info21
  rw [run_eql_struct, run_equalIn_array w 9999 _ _ Try.underlying26 hi, cellsOf21]
  have hr : List.range 8 = [0, 1, 2, 3, 4, 5, 6, 7] := rfl
  rw [hr]
  simp [Op.eqItems, go_sem, hi, cellsOf21]

end Go.Proofs.Qxb6601738a
