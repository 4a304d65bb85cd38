/-
  Closed facts: type assertions at the types that the walks meet.
-/
import Derived.Test.YbulkhuyRows
import Derived.WalkKit
namespace Go.Proofs.Ybulkhuy
theorem ta_70_30 (a : Addr) (w : World) : (Instr.typeAssert (.iface 70 (.pointer (some a))) 39 30 true).run Yba.prog w = .ok (.tuple #[.pointer none, .bool false]) w := by kernel_rfl
theorem ta_70_32 (a : Addr) (w : World) : (Instr.typeAssert (.iface 70 (.pointer (some a))) 39 32 true).run Yba.prog w = .ok (.tuple #[.pointer none, .bool false]) w := by kernel_rfl
theorem ta_70_70 (a : Addr) (w : World) : (Instr.typeAssert (.iface 70 (.pointer (some a))) 39 70 true).run Yba.prog w = .ok (.tuple #[.pointer (some a), .bool true]) w := by kernel_rfl
theorem ta_32_30 (a : Addr) (w : World) : (Instr.typeAssert (.iface 32 (.pointer (some a))) 39 30 true).run Yba.prog w = .ok (.tuple #[.pointer none, .bool false]) w := by kernel_rfl
theorem ta_32_32 (a : Addr) (w : World) : (Instr.typeAssert (.iface 32 (.pointer (some a))) 39 32 true).run Yba.prog w = .ok (.tuple #[.pointer (some a), .bool true]) w := by kernel_rfl
theorem ta_30_30 (a : Addr) (w : World) : (Instr.typeAssert (.iface 30 (.pointer (some a))) 39 30 true).run Yba.prog w = .ok (.tuple #[.pointer (some a), .bool true]) w := by kernel_rfl
theorem ta_30_57 (a : Addr) (w : World) : (Instr.typeAssert (.iface 30 (.pointer (some a))) 39 57 true).run Yba.prog w = .ok (.tuple #[.pointer none, .bool false]) w := by kernel_rfl
theorem ta_57_57 (a : Addr) (w : World) : (Instr.typeAssert (.iface 57 (.pointer (some a))) 39 57 true).run Yba.prog w = .ok (.tuple #[.pointer (some a), .bool true]) w := by kernel_rfl
end Go.Proofs.Ybulkhuy
