/-
  '==' and '!=' on two results of an OffsetWriter's call.
-/
import Derived.Test.YtnmdjhkeekhfbaaDoorOffBase
import Derived.Laws.StructEq
namespace Go.Proofs.YtnmdjhkeekhfbaaDoor
open Go.RowKit
set_option linter.unusedVariables false
set_option maxRecDepth 100000

theorem equalMoved (w : World) (a b c d : Int) : (Op.equalIn 10000 38 (.agg #[.int .i64 a, .int .i64 b]) (.agg #[.int .i64 c, .int .i64 d])).run Tryd.prog w = .ok (a == c && b == d) w := by
  have u2 := Tryd.underlying2
  have u3 := Tryd.underlying3
  have hS : Tryd.prog.underlying 38 = some (.struct (Tryd.prog.fieldsOf 38)) := by kernel_rfl
  have hp : Tryd.prog.stoodInHeld 38 = false := by kernel_rfl
  rw [show (10000 : Nat) = 9999 + 1 from rfl, run_equalIn_agg w 9999 _ _ _ hS hp]
  simp only [Program.fieldsOf, Tryd.underlying38]
  go_simp
  by_cases h1 : a = c <;> by_cases h2 : b = d <;> simp [h1, h2]

theorem eqMoved (w : World) (a b c d : Int) : (binOp .eql 38 (.agg #[.int .i64 a, .int .i64 b]) (.agg #[.int .i64 c, .int .i64 d])).run Tryd.prog w = .ok (.bool (a == c && b == d)) w := by
  rw [run_eql_struct, equalMoved]
  rfl
theorem neMoved (w : World) (a b c d : Int) : (binOp .neq 38 (.agg #[.int .i64 a, .int .i64 b]) (.agg #[.int .i64 c, .int .i64 d])).run Tryd.prog w = .ok (.bool (!(a == c && b == d))) w := by
  rw [run_neq_struct, equalMoved]
  rfl
theorem guardMoved : Tryd.prog.eqGuardType Tryd.prog.depth 38 = false := by kernel_rfl

end Go.Proofs.YtnmdjhkeekhfbaaDoor
