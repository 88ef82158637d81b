import Derived.Test.YbulkdeliRowMem
namespace Go.Proofs.Ybulkdeli
open Go.RowKit Go.ChangeShapes

theorem guard29 : Yba.prog.eqGuardType Yba.prog.depth 29 = false := by kernel_rfl
theorem eqIn29 (s n f t : Int) (w : World) : (Op.equalIn 10000 29 (.agg #[.int .i64 s, .int .i32 n, .int .i64 f, .int .i64 t]) (.agg #[.int .i64 s, .int .i32 n, .int .i64 f, .int .i64 t])).run Yba.prog w = .ok true w := by
  have u2 := Yba.underlying2
  have a2 := Yba.isAgg2
  have z2 := Yba.sizeOf2
  have u3 := Yba.underlying3
  have a3 := Yba.isAgg3
  have z3 := Yba.sizeOf3
  have u21 := Yba.underlying21
  have a21 := Yba.isAgg21
  have z21 := Yba.sizeOf21
  have a27 := Yba.isAgg27
  have z27 := Yba.sizeOf27
  have hS : Yba.prog.underlying 29 = some (.struct (Yba.prog.fieldsOf 29)) := by kernel_rfl
  have hp : Yba.prog.stoodInHeld 29 = false := by kernel_rfl
  have E27 : (Op.equalIn 9999 27 (.agg #[.int .i64 s, .int .i32 n]) (.agg #[.int .i64 s, .int .i32 n])).run Yba.prog w = .ok true w := by
    have hS' : Yba.prog.underlying 27 = some (.struct (Yba.prog.fieldsOf 27)) := by kernel_rfl
    have hp' : Yba.prog.stoodInHeld 27 = false := by kernel_rfl
    clear hS hp
    rw [show (9999 : Nat) = 9998 + 1 from rfl, run_equalIn_agg w 9998 27 _ _ hS' hp']
    clear hS' hp'
    simp only [Program.fieldsOf, Yba.underlying27]
    go_simp
  rw [show (10000 : Nat) = 9999 + 1 from rfl, run_equalIn_agg w 9999 29 _ _ hS hp]
  clear hS hp
  simp only [Program.fieldsOf, Yba.underlying29]
  go_simp
theorem neq29 (s n f t : Int) (w : World) : (binOp .neq 29 (.agg #[.int .i64 s, .int .i32 n, .int .i64 f, .int .i64 t]) (.agg #[.int .i64 s, .int .i32 n, .int .i64 f, .int .i64 t])).run Yba.prog w = .ok (.bool false) w := by
  rw [run_neq_struct, eqIn29]; rfl
end Go.Proofs.Ybulkdeli
