/-
  The zero value of the law's model: 1,536 cells (its own text: the kernel takes a minute over it).
-/
import Derived.Test.YbulkbopqChecked
import Derived.KernelRfl
namespace Go.Proofs.Ybulkbopq

def zM : Array Value := Array.replicate 768 (.bool false) ++ Array.replicate 768 (.int .u64 0)
theorem zero104 (w : World) : (zeroValue 104).run Yba.prog w = .ok (.agg zM) w := by kernel_rfl

end Go.Proofs.Ybulkbopq
