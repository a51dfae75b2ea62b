/- A slice held against nil. -/
import Derived.Test.Qxb6613726aProg
import Derived.KernelRfl
import Derived.Calls
namespace Go.Proofs.Qxb6613726a
open Go
theorem eql32_some (x : Addr) (n c : Nat) (w : World) : (binOp .eql 32 (.slice (some x) n c) (.slice none 0 0)).run Try.prog w = .ok (.bool false) w := by kernel_rfl
theorem eql32_none (w : World) : (binOp .eql 32 (.slice none 0 0) (.slice none 0 0)).run Try.prog w = .ok (.bool true) w := by kernel_rfl
theorem eql22_some (x : Addr) (n c : Nat) (w : World) : (binOp .eql 22 (.slice (some x) n c) (.slice none 0 0)).run Try.prog w = .ok (.bool false) w := by kernel_rfl
theorem eql22_none (w : World) : (binOp .eql 22 (.slice none 0 0) (.slice none 0 0)).run Try.prog w = .ok (.bool true) w := by kernel_rfl
end Go.Proofs.Qxb6613726a
