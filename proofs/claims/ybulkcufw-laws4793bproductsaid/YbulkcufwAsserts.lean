/-
  What the type assertions and the type switch answer of the values that lie in a condition (laid out by a script for this program's type numbers).
-/
import Derived.Test.YbulkcufwRows
import Derived.WalkKit
namespace Go.Proofs.Ybulkcufw
theorem as72_72 (v : Value) (w : World) : (Instr.typeAssert (.iface 72 v) 39 72 true).run Yba.prog w = .ok (.tuple #[v, .bool true]) w := by kernel_rfl
theorem as73_72 (v : Value) (w : World) : (Instr.typeAssert (.iface 73 v) 39 72 true).run Yba.prog w = .ok (.tuple #[.bool false, .bool false]) w := by kernel_rfl
theorem as73_73 (v : Value) (w : World) : (Instr.typeAssert (.iface 73 v) 39 73 true).run Yba.prog w = .ok (.tuple #[v, .bool true]) w := by kernel_rfl
theorem as77_72 (v : Value) (w : World) : (Instr.typeAssert (.iface 77 v) 39 72 true).run Yba.prog w = .ok (.tuple #[.bool false, .bool false]) w := by kernel_rfl
theorem as77_73 (v : Value) (w : World) : (Instr.typeAssert (.iface 77 v) 39 73 true).run Yba.prog w = .ok (.tuple #[.pointer none, .bool false]) w := by kernel_rfl
theorem as77_77 (v : Value) (w : World) : (Instr.typeAssert (.iface 77 v) 39 77 true).run Yba.prog w = .ok (.tuple #[v, .bool true]) w := by kernel_rfl
theorem as80_72 (v : Value) (w : World) : (Instr.typeAssert (.iface 80 v) 39 72 true).run Yba.prog w = .ok (.tuple #[.bool false, .bool false]) w := by kernel_rfl
theorem as80_73 (v : Value) (w : World) : (Instr.typeAssert (.iface 80 v) 39 73 true).run Yba.prog w = .ok (.tuple #[.pointer none, .bool false]) w := by kernel_rfl
theorem as80_77 (v : Value) (w : World) : (Instr.typeAssert (.iface 80 v) 39 77 true).run Yba.prog w = .ok (.tuple #[.pointer none, .bool false]) w := by kernel_rfl
theorem as80_84 (v : Value) (w : World) : (Instr.typeAssert (.iface 80 v) 39 84 true).run Yba.prog w = .ok (.tuple #[.pointer none, .bool false]) w := by kernel_rfl
theorem as80_87 (v : Value) (w : World) : (Instr.typeAssert (.iface 80 v) 39 87 true).run Yba.prog w = .ok (.tuple #[.pointer none, .bool false]) w := by kernel_rfl
theorem as80_88 (v : Value) (w : World) : (Instr.typeAssert (.iface 80 v) 39 88 true).run Yba.prog w = .ok (.tuple #[.pointer none, .bool false]) w := by kernel_rfl
theorem as80_91 (v : Value) (w : World) : (Instr.typeAssert (.iface 80 v) 39 91 true).run Yba.prog w = .ok (.tuple #[.pointer none, .bool false]) w := by kernel_rfl
theorem as80_40 (v : Value) (w : World) : (Instr.typeAssert (.iface 80 v) 39 40 true).run Yba.prog w = .ok (.tuple #[.pointer none, .bool false]) w := by kernel_rfl
theorem as80_94 (v : Value) (w : World) : (Instr.typeAssert (.iface 80 v) 39 94 true).run Yba.prog w = .ok (.tuple #[.pointer none, .bool false]) w := by kernel_rfl
theorem as40_40 (v : Value) (w : World) : (Instr.typeAssert (.iface 40 v) 39 40 true).run Yba.prog w = .ok (.tuple #[v, .bool true]) w := by kernel_rfl
theorem at40_40 (v : Value) (w : World) : (Instr.typeAssert (.iface 40 v) 39 40 false).run Yba.prog w = .ok v w := by kernel_rfl
theorem as72_40 (v : Value) (w : World) : (Instr.typeAssert (.iface 72 v) 39 40 true).run Yba.prog w = .ok (.tuple #[.pointer none, .bool false]) w := by kernel_rfl
theorem as73_40 (v : Value) (w : World) : (Instr.typeAssert (.iface 73 v) 39 40 true).run Yba.prog w = .ok (.tuple #[.pointer none, .bool false]) w := by kernel_rfl
theorem as77_40 (v : Value) (w : World) : (Instr.typeAssert (.iface 77 v) 39 40 true).run Yba.prog w = .ok (.tuple #[.pointer none, .bool false]) w := by kernel_rfl
end Go.Proofs.Ybulkcufw
