/-
  THE TYPE ASSERTIONS of the road, each a closed reckoning over the program's tables.
-/
import Derived.Test.YouahwProg
import Derived.KernelRfl
import GoSem.Dispatch
namespace Go.Proofs.Youahw

theorem as_str2 (s : ByteArray) (w : World) : (Instr.typeAssert (.iface 9 (.string s)) 20 9 true).run Uahg.prog w = .ok (.tuple #[.string s, .bool true]) w := by kernel_rfl
theorem as_str1 (s : ByteArray) (w : World) : (Instr.typeAssert (.iface 9 (.string s)) 20 9 false).run Uahg.prog w = .ok (.string s) w := by kernel_rfl
theorem as_arr_str2 (a : Option Addr) (n c : Nat) (w : World) : (Instr.typeAssert (.iface 38 (.slice a n c)) 20 9 true).run Uahg.prog w = .ok (.tuple #[.string ByteArray.empty, .bool false]) w := by kernel_rfl
theorem as_arr1 (a : Option Addr) (n c : Nat) (w : World) : (Instr.typeAssert (.iface 38 (.slice a n c)) 20 38 false).run Uahg.prog w = .ok (.slice a n c) w := by kernel_rfl
theorem as_arr2 (a : Option Addr) (n c : Nat) (w : World) : (Instr.typeAssert (.iface 38 (.slice a n c)) 20 38 true).run Uahg.prog w = .ok (.tuple #[.slice a n c, .bool true]) w := by kernel_rfl
end Go.Proofs.Youahw
