/-
  A block: a length and a sum of 32 bytes; how it lies in memory.
-/
import Derived.Test.Qxb6630671aDoorChecked
import Derived.Laws.Tables
import Derived.Deep.MidRow
import Derived.WalkKit
import Derived.KernelRfl
namespace Go.Proofs.Qxb6630671aDoor
open Go.RowKit
set_option linter.unusedVariables false

theorem size36 : (Tryd.prog.info? 36).map (·.size) = some 33 := by kernel_rfl
theorem size30 : (Tryd.prog.info? 30).map (·.size) = some 33 := by kernel_rfl
theorem size28 : (Tryd.prog.info? 28).map (·.size) = some 32 := by kernel_rfl

/-- A list of 32, letter by letter. -/
theorem list32 {α : Type} (cs : List α) (hl : cs.length = 32) : ∃ x0 x1 x2 x3 x4 x5 x6 x7 x8 x9 x10 x11 x12 x13 x14 x15 x16 x17 x18 x19 x20 x21 x22 x23 x24 x25 x26 x27 x28 x29 x30 x31, cs = [x0, x1, x2, x3, x4, x5, x6, x7, x8, x9, x10, x11, x12, x13, x14, x15, x16, x17, x18, x19, x20, x21, x22, x23, x24, x25, x26, x27, x28, x29, x30, x31] := by
  match cs, hl with
  | [x0, x1, x2, x3, x4, x5, x6, x7, x8, x9, x10, x11, x12, x13, x14, x15, x16, x17, x18, x19, x20, x21, x22, x23, x24, x25, x26, x27, x28, x29, x30, x31], _ => exact ⟨x0, x1, x2, x3, x4, x5, x6, x7, x8, x9, x10, x11, x12, x13, x14, x15, x16, x17, x18, x19, x20, x21, x22, x23, x24, x25, x26, x27, x28, x29, x30, x31, rfl⟩

theorem built36 (L : Int) (cs : List Value) (hl : cs.length = 32) : Tryd.prog.built 36 [(0, .int .i64 L), (1, .agg cs.toArray)] = some (.int .i64 L :: cs).toArray := by
  obtain ⟨x0, x1, x2, x3, x4, x5, x6, x7, x8, x9, x10, x11, x12, x13, x14, x15, x16, x17, x18, x19, x20, x21, x22, x23, x24, x25, x26, x27, x28, x29, x30, x31, rfl⟩ := list32 cs hl
  kernel_rfl
end Go.Proofs.Qxb6630671aDoor
