/-
  The walks of laws.zzFits1, zzFits2. Conditions: as each contract says.
-/
import Derived.Test.YtaionnajhgjekaaDoorIb
import Derived.Test.YtaionnajhgjekaaDoorCdS
import Derived.Deep.QuietTactic
import Derived.BigQuiet
namespace Go.Proofs.YtaionnajhgjekaaDoor
open Go.RowKit

set_option maxRecDepth 100000 in
theorem zzFits1_b (a b c : Value) (d : List UInt8) (w : World) (hd : d.length ≤ 9223372036854775807) :
    Calls Tryd.prog 33 #[.agg #[a, b, c, .string ⟨d.toArray⟩]] w fun e w' => e = .returned (.bool (decide (d.length ≤ 2147483647))) ∧ Below w.heap.size w w' := by
  go_enter Tryd.func33, Tryd.ntmps33
  go_wp2_with fail
  all_goals go_ret
  all_goals refine ⟨?_, (Below.refl _ _).alloc (Nat.le_refl _) _⟩
  all_goals simp
  all_goals omega

end Go.Proofs.YtaionnajhgjekaaDoor
