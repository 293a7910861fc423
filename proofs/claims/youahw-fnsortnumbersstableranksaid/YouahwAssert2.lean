/-
  MORE TYPE ASSERTIONS of the road: numbers.
-/
import Derived.Test.YouahwProg
import Derived.KernelRfl
import GoSem.Dispatch
namespace Go.Proofs.Youahw

theorem as_num2 (x : Nat) (w : World) : (Instr.typeAssert (.iface 26 (.float .f64 x)) 20 26 true).run Uahg.prog w = .ok (.tuple #[.float .f64 x, .bool true]) w := by kernel_rfl
theorem as_num1 (x : Nat) (w : World) : (Instr.typeAssert (.iface 26 (.float .f64 x)) 20 26 false).run Uahg.prog w = .ok (.float .f64 x) w := by kernel_rfl
theorem as_str_num2 (s : ByteArray) (w : World) : (Instr.typeAssert (.iface 9 (.string s)) 20 26 true).run Uahg.prog w = .ok (.tuple #[.float .f64 0, .bool false]) w := by kernel_rfl
end Go.Proofs.Youahw
