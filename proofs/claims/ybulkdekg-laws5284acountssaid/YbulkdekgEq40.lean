import Derived.Test.YbulkdekgTally
import Derived.Laws.StructEq
namespace Go.Proofs.Ybulkdekg
open Go.RowKit Go.ChangeShapes Go.Maps

theorem guard40 : Yba.prog.eqGuardType Yba.prog.depth 40 = false := by kernel_rfl
theorem eqIn40 (a b c d : ByteArray) (w : World) : (Op.equalIn 10000 40 (.agg #[.string a, .string b]) (.agg #[.string c, .string d])).run Yba.prog w = .ok (a.toList == c.toList && b.toList == d.toList) w := by
  have u9 := Yba.underlying9
  have a9 := Yba.isAgg9
  have z9 := Yba.sizeOf9
  have hS : Yba.prog.underlying 40 = some (.struct (Yba.prog.fieldsOf 40)) := by kernel_rfl
  have hp : Yba.prog.stoodInHeld 40 = false := by kernel_rfl
  rw [show (10000 : Nat) = 9999 + 1 from rfl, run_equalIn_agg w 9999 40 _ _ hS hp]
  simp only [Program.fieldsOf, Yba.underlying40]
  go_simp
  by_cases h1 : a.toList = c.toList <;> by_cases h2 : b.toList = d.toList <;> simp [h1, h2]
theorem eq40 (a b c d : ByteArray) (w : World) : (binOp .eql 40 (.agg #[.string a, .string b]) (.agg #[.string c, .string d])).run Yba.prog w = .ok (.bool (a.toList == c.toList && b.toList == d.toList)) w := by
  rw [run_eql_struct, eqIn40]; rfl
theorem eqPr (x y : Pr) : (x.1.toList == y.1.toList && x.2.toList == y.2.toList) = decide (x = y) := by
  have key : ∀ a b : ByteArray, a.toList = b.toList → a = b := by
    intro a b h
    rw [ByteArray.toList_eq, ByteArray.toList_eq] at h
    exact ByteArray.ext (Array.toList_inj.1 h)
  by_cases e : x = y
  · subst e; simp
  · have : ¬ (x.1.toList = y.1.toList ∧ x.2.toList = y.2.toList) := fun h => e (Prod.ext (key _ _ h.1) (key _ _ h.2))
    simp only [e, decide_false]
    rw [Bool.eq_false_iff]
    intro h
    simp at h
    exact this h
end Go.Proofs.Ybulkdekg
