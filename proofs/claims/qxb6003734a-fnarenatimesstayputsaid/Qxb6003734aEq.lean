import Derived.Test.Qxb6003734aChecked
import Derived.WalkKit
import Derived.WalkLawsBesides
namespace Go.Proofs.Qxb6003734a
open Go.RowKit
theorem guard28 : Try.prog.eqGuardType Try.prog.depth 28 = false := by kernel_rfl
theorem held28 : Try.prog.stoodInHeld 28 = false := by kernel_rfl
theorem ptr26 : Try.prog.underlying 26 = some (.pointer (Try.prog.pointee 26)) := by kernel_rfl

theorem eq_fields28 (d : Nat) (a b : Int) (w : World) : (Op.eqFields (d + 1) #[.int .u64 a, .int .i64 b, .pointer none] #[.int .u64 a, .int .i64 b, .pointer none] (Try.prog.fieldsOf 28).toList).run Try.prog w = .ok true w := by
  have hp := run_equalIn_pointer_nil (P := Try.prog) w d 26 none ptr26
  simp [Program.fieldsOf, Try.underlying28, Op.eqFields, go_sem, hp]
theorem struct28 : Try.prog.underlying 28 = some (.struct (Try.prog.fieldsOf 28)) := by
  simp [Program.fieldsOf, Try.underlying28]

/-- Two times with the same cells are equal. -/
theorem neq28 (a b : Int) (w : World) : (binOp .neq 28 (.agg #[.int .u64 a, .int .i64 b, .pointer none]) (.agg #[.int .u64 a, .int .i64 b, .pointer none])).run Try.prog w = .ok (.bool false) w := by
  have h1 := run_equalIn_struct (P := Try.prog) w 9999 28 #[.int .u64 a, .int .i64 b, .pointer none] #[.int .u64 a, .int .i64 b, .pointer none] struct28 held28
  have h2 := eq_fields28 9998 a b w
  rw [run_neq_struct, h1, h2]
  rfl
end Go.Proofs.Qxb6003734a
