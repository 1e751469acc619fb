/-
  What the table says of a byte. Conditions: none.
-/
import Derived.Test.YtakkdpbpoghfgaaGreatDoorProg
import Derived.Test.YtakkdpbpoghfgaaGreatDoorBase
namespace Go.Proofs.YtakkdpbpoghfgaaGreatDoor
theorem info5 : (Tryz.prog.info? 5).map (fun i => (i.zero, i.size, i.bytes)) = some (some (.int .u8 0), 1, 1) := by kernel_rfl
end Go.Proofs.YtakkdpbpoghfgaaGreatDoor
