/-
  The walks of laws.uvOne, FnUvPut and FnUvTwo: each returns true, and nothing that was there has turned. Conditions: the package's three errors are not nil (they are as start-up lays them).
-/
import Derived.Test.YtaionnajhgjekaaDoorUvI
namespace Go.Proofs.YtaionnajhgjekaaDoor
open Go.RowKit

theorem UvReadPost_ok (n s : Nat) (w : World) : UvReadPost (.ok n s) w = fun e w' => Below w.heap.size w w' ∧ e = .returned (.tuple #[.int .u64 n, .int .i64 s, .bool true]) := rfl

end Go.Proofs.YtaionnajhgjekaaDoor
