/-
  The walk of spec.Tidy. Conditions: as the contract says.
-/
import Derived.Test.YtdfhfaeeejijcaaDoorIb
import Derived.Test.YtdfhfaeeejijcaaDoorCdS
namespace Go.Proofs.YtdfhfaeeejijcaaDoor
open Go.RowKit

/-- Whether an identifier is tidy. -/
def tidyB (v c k : Int) (d : List UInt8) : Bool := if v = 0 then (decide (c = 112) && decide (k = 18) && decide (d.length = 32)) else (decide (v = 1) && decide (c < 9223372036854775808) && decide (k < 9223372036854775808))

set_option maxRecDepth 100000 in
set_option maxHeartbeats 2000000 in
theorem tidy_any (v c k : Int) (d : List UInt8) (w : World) (_ : d.length ≤ 9223372036854775807) :
    Calls Tryd.prog 18 #[.agg #[.int .u64 v, .int .u64 c, .int .u64 k, .string ⟨d.toArray⟩]] w fun e w' => e = .returned (.bool (tidyB v c k d)) ∧ Below w.heap.size w w' := by
  go_enter Tryd.func18, Tryd.ntmps18
  go_wp2_with fail
  all_goals go_ret
  all_goals refine ⟨?_, (Below.refl _ _).alloc (Nat.le_refl _) _⟩
  all_goals simp_all [tidyB]
  · exact Bool.eq_iff_iff.2 (by simp; omega)
  · omega

theorem tidyB_iff (x : CidL) : tidyB x.version x.codec x.code x.digest = true ↔ x.tidy := by
  unfold tidyB CidL.tidy
  by_cases h : (x.version : Int) = 0
  · rw [if_pos h]; simp; omega
  · rw [if_neg h]; simp; omega
end Go.Proofs.YtdfhfaeeejijcaaDoor
