/-
  The walks of impl.UvPut, UvSize, UvRead, spec.Varint and laws.uvOne. Conditions: as each contract says.
-/
import Derived.Test.YtdfhfaeeejijcaaDoorUvW
import Derived.Deep.RegionHeld3
namespace Go.Proofs.YtdfhfaeeejijcaaDoor
open Go.RowKit

theorem ret_str {a b : List UInt8} (h : a = b) : Ending.returned (.string ⟨a.toArray⟩) = .returned (.string ⟨b.toArray⟩) := by rw [h]

/-- What UvRead comes to. -/
def UvReadPost (r : UvR) (w : World) (e : Ending) (w' : World) : Prop :=
  Below w.heap.size w w' ∧ e = match r with
    | .ok n s => .returned (.tuple #[.int .u64 n, .int .i64 s, .bool true])
    | _ => .returned (.tuple #[.int .u64 0, .int .i64 0, .bool false])

end Go.Proofs.YtdfhfaeeejijcaaDoor
