/-
  The walks of impl.UvReader and laws.FnUvReader. Conditions: the errors are as start-up lays them: io.EOF lies elsewhere than the others.
-/
import Derived.Test.YtaionnajhgjekaaDoorRd
import Derived.Test.YtaionnajhgjekaaDoorUvL
import Derived.Test.YtaionnajhgjekaaDoorMhL
namespace Go.Proofs.YtaionnajhgjekaaDoor
open Go.RowKit

/-- What UvReader comes to. -/
def UrPost (res : UvR) (n : Nat) (w : World) (e : Ending) (w' : World) : Prop :=
  Below w.heap.size w w' ∧ match res with
    | .ok x s => e = .returned (.tuple #[.int .u64 x, .int .i64 s, .int .u8 0])
    | .ends => ∃ m : Int, e = .returned (.tuple #[.int .u64 0, .int .i64 m, .int .u8 (if n = 0 then 1 else 2)])
    | _ => ∃ m : Int, e = .returned (.tuple #[.int .u64 0, .int .i64 m, .int .u8 2])

end Go.Proofs.YtaionnajhgjekaaDoor
