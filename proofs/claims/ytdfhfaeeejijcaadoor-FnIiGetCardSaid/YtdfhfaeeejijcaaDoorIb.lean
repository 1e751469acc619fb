/-
  What the table says of a byte. Conditions: none.
-/
import Derived.Test.YtdfhfaeeejijcaaDoorProg
import Derived.Test.YtdfhfaeeejijcaaDoorBase
namespace Go.Proofs.YtdfhfaeeejijcaaDoor
theorem info5 : (Tryd.prog.info? 5).map (fun i => (i.zero, i.size, i.bytes)) = some (some (.int .u8 0), 1, 1) := by kernel_rfl
end Go.Proofs.YtdfhfaeeejijcaaDoor
