/-
  CLOSED FACTS: the type assertions on the roads.
-/
import Derived.Test.YouagwChecked
import Derived.WalkKit
import Derived.KernelRfl
namespace Go.Proofs.Youagw.Asserts

theorem as22_46 (v : Value) (w : World) : (Instr.typeAssert (.iface 22 v) 20 46 true).run Uagg.prog w = .ok (.tuple #[.slice none 0 0, .bool false]) w := by kernel_rfl
theorem as29_46 (v : Value) (w : World) : (Instr.typeAssert (.iface 29 v) 20 46 true).run Uagg.prog w = .ok (.tuple #[.slice none 0 0, .bool false]) w := by kernel_rfl
theorem asNil_46 (w : World) : (Instr.typeAssert .nilIface 20 46 true).run Uagg.prog w = .ok (.tuple #[.slice none 0 0, .bool false]) w := by kernel_rfl
theorem as46_46 (v : Value) (w : World) : (Instr.typeAssert (.iface 46 v) 20 46 true).run Uagg.prog w = .ok (.tuple #[v, .bool true]) w := by kernel_rfl
theorem as29_29 (v : Value) (w : World) : (Instr.typeAssert (.iface 29 v) 20 29 true).run Uagg.prog w = .ok (.tuple #[v, .bool true]) w := by kernel_rfl
theorem as9_29 (v : Value) (w : World) : (Instr.typeAssert (.iface 9 v) 20 29 true).run Uagg.prog w = .ok (.tuple #[.float .f64 0, .bool false]) w := by kernel_rfl
theorem as4_29 (v : Value) (w : World) : (Instr.typeAssert (.iface 4 v) 20 29 true).run Uagg.prog w = .ok (.tuple #[.float .f64 0, .bool false]) w := by kernel_rfl
theorem as3_29 (v : Value) (w : World) : (Instr.typeAssert (.iface 3 v) 20 29 true).run Uagg.prog w = .ok (.tuple #[.float .f64 0, .bool false]) w := by kernel_rfl
theorem asNil_29 (w : World) : (Instr.typeAssert .nilIface 20 29 true).run Uagg.prog w = .ok (.tuple #[.float .f64 0, .bool false]) w := by kernel_rfl

end Go.Proofs.Youagw.Asserts
