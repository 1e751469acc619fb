/-
  The walks of C2HasIndex, C2New and of the laws FnC2HasIndex, FnC2New: each returns true at every argument, and nothing that was there has turned. Conditions: none.
-/
import Derived.Test.YtakkdpbpoghfgaaGreatDoorProg
import Derived.Test.YtakkdpbpoghfgaaGreatDoorBase
import Derived.Deep.QuietTactic
import Derived.BigQuiet
import Derived.Deep.RegionWith
import Derived.Deep.RegionHeld3
namespace Go.Proofs.YtakkdpbpoghfgaaGreatDoor
open Go.RowKit

set_option maxRecDepth 100000 in
theorem headOut_any (a b c d e : Int) (w : World) :
    Calls Tryz.prog 10 #[.agg #[.int .u64 a, .int .u64 b, .int .u64 c, .int .u64 d, .int .u64 e]] w fun r w' => r = .returned (.agg #[.int .u64 a, .int .u64 b, .int .u64 c, .int .u64 d, .int .u64 e]) ∧ Below w.heap.size w w' := by
  go_enter Tryz.func10, Tryz.ntmps10
  go_wp2
  refine bodyPost_ret (v := .agg #[.int .u64 a, .int .u64 b, .int .u64 c, .int .u64 d, .int .u64 e]) (by simp [results, Tryz.results10, go_sem]) rfl ⟨rfl, ?_⟩
  exact ((Below.refl _ _).alloc (by simp) _).alloc (by simp) _

end Go.Proofs.YtakkdpbpoghfgaaGreatDoor
