/-
  The walks of laws.uvOne, FnUvPut and FnUvTwo: each returns true, and nothing that was there has turned. Conditions: the package's three errors are not nil (they are as start-up lays them).
-/
import Derived.Test.YtgkhofnedhlgdaaDoorUvI
namespace Go.Proofs.YtgkhofnedhlgdaaDoor
open Go.RowKit

theorem UvReadPost_ok (n s : Nat) (w : World) : UvReadPost (.ok n s) w = fun e w' => Below w.heap.size w w' ∧ e = .returned (.tuple #[.int .u64 n, .int .i64 s, .bool true]) := rfl

set_option maxRecDepth 100000 in
theorem uvOne_any (w : World) (e0 : Er w 2) (e1 : Er w 3) (e2 : Er w 5) :
    Calls Tryd.prog 11 #[] w fun e w' => e = .returned (.bool true) ∧ Below w.heap.size w w' := by
  have hr : uvRd [172, 2] 0 0 = .ok 300 2 := by decide
  have hu : Lib.uvarint 300 = [172, 2] := by rw [Lib.uvarint_big (by omega), Lib.uvarint_small (by omega)]; rfl
  have HU := Lib.hid hu
  clear hu
  go_enter Tryd.func11, Tryd.ntmps11
  go_wp2_with fail
  refine (uvRead_any [172, 2] w (by simp) e0 e1 e2).mono ?_
  rw [hr]
  rintro e w1 ⟨hb, rfl⟩
  clear hr
  go_wp2_with fail
  refine (uvPut_any 300 w1 (by omega) (by omega)).mono ?_
  rintro e w2 ⟨rfl, hb2⟩
  rw [show (300 : Int).toNat = 300 from rfl, HU.out]
  go_wp2_with fail
  go_ret
  exact ⟨rfl, Old.trans hb hb2⟩

end Go.Proofs.YtgkhofnedhlgdaaDoor
