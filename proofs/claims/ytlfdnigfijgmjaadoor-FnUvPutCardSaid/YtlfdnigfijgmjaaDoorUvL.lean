/-
  The walks of laws.uvOne, FnUvPut and FnUvTwo: each returns true, and nothing that was there has turned. Conditions: the package's three errors are not nil (they are as start-up lays them).
-/
import Derived.Test.YtlfdnigfijgmjaaDoorUvI
namespace Go.Proofs.YtlfdnigfijgmjaaDoor
open Go.RowKit

theorem UvReadPost_ok (n s : Nat) (w : World) : UvReadPost (.ok n s) w = fun e w' => Below w.heap.size w w' ∧ e = .returned (.tuple #[.int .u64 n, .int .i64 s, .bool true]) := rfl

set_option maxRecDepth 100000 in
theorem uvOne_any (w : World) (e0 : Er w 0) (e1 : Er w 1) (e2 : Er w 2) :
    Calls Tryd.prog 11 #[] w fun e w' => e = .returned (.bool true) ∧ Below w.heap.size w w' := by
  have hr : uvRd [172, 2] 0 0 = .ok 300 2 := by decide
  have hu : Lib.uvarint 300 = [172, 2] := by rw [Lib.uvarint_big (by omega), Lib.uvarint_small (by omega)]; rfl
  have HU := Lib.hid hu
  clear hu
  go_enter Tryd.func11, Tryd.ntmps11
  go_wp2_with fail
  refine (uvRead_any [172, 2] w (by simp) e0 e1 e2).mono ?_
  rw [hr]
  rintro e w1 ⟨hb, rfl⟩
  clear hr
  go_wp2_with fail
  refine (uvPut_any 300 w1 (by omega) (by omega)).mono ?_
  rintro e w2 ⟨rfl, hb2⟩
  rw [show (300 : Int).toNat = 300 from rfl, HU.out]
  go_wp2_with fail
  go_ret
  exact ⟨rfl, Old.trans hb hb2⟩

set_option maxRecDepth 100000 in
theorem fnUvPut_walk (n : Int) (w : World) (h0 : 0 ≤ n) (h1 : n < 18446744073709551616) (e0 : Er w 0) (e1 : Er w 1) (e2 : Er w 2) :
    Calls Tryd.prog 4 #[.int .u64 n] w fun e w' => e = .returned (.bool true) ∧ Below w.heap.size w w' := by
  go_enter Tryd.func4, Tryd.ntmps4
  go_wp2_with fail
  refine (uvPut_any n w h0 h1).mono ?_
  rintro e w1 ⟨rfl, hb1⟩
  go_wp2_with fail
  refine (specVarint_any n w1 h0 h1).mono ?_
  rintro e w2 ⟨g, cap, rfl, hg, hcap, hbs, hb2⟩
  have hcv := conv_str (P := Tryd.prog) Tryd.underlying27 Tryd.underlying5 Tryd.underlying9 (c := cap) hbs rfl
  go_wp2_with fail
  refine (uvSize_any n w2 h0 h1).mono ?_
  rintro e w3 ⟨rfl, rfl⟩
  have hb := Old.trans hb1 hb2
  go_wp2_with fail
  refine (uvOne_any _ (e0.old hb) (e1.old hb) (e2.old hb)).mono ?_
  rintro e w4 ⟨rfl, hb4⟩
  go_wp2_with fail
  go_ret
  exact ⟨rfl, Old.trans hb hb4⟩

set_option maxRecDepth 100000 in
theorem fnUvTwo_walk (a b : Int) (w : World) (h0 : 0 ≤ a) (h1 : a < 18446744073709551616) (k0 : 0 ≤ b) (k1 : b < 18446744073709551616) (e0 : Er w 0) (e1 : Er w 1) (e2 : Er w 2) :
    Calls Tryd.prog 3 #[.int .u64 a, .int .u64 b] w fun e w' => e = .returned (.bool true) ∧ Below w.heap.size w w' := by
  by_cases ha : a < 9223372036854775808
  · by_cases hb : b < 9223372036854775808
    · have hA := uvRd_uvarint a.toNat (Lib.uvarint b.toNat) (by omega)
      have hB := uvRd_uvarint b.toNat [] (by omega)
      have lA := uv_le9 (x := a.toNat) (by omega)
      have lB := uv_le9 (x := b.toNat) (by omega)
      rw [List.append_nil] at hB
      have HA := Lib.hid (And.intro hA (And.intro hB (And.intro (Int.toNat_of_nonneg h0) (Int.toNat_of_nonneg k0))))
      clear hA hB
      go_enter Tryd.func3, Tryd.ntmps3
      go_wp2_with fail
      refine (uvPut_any a w h0 h1).mono ?_
      rintro e w1 ⟨rfl, hb1⟩
      go_wp2_with fail
      refine (uvPut_any b w1 k0 k1).mono ?_
      rintro e w2 ⟨rfl, hb2⟩
      go_wp2_with fail
      rw [str_app]
      have hb12 := Old.trans hb1 hb2
      refine (uvRead_any _ w2 (by rw [List.length_append]; omega) (e0.old hb12) (e1.old hb12) (e2.old hb12)).mono ?_
      rw [HA.out.1, UvReadPost_ok, HA.out.2.2.1]
      rintro e w3 ⟨hb3, rfl⟩
      go_wp2_with fail
      rw [str_from _ (by simp), List.drop_left]
      have hb13 := Old.trans hb12 hb3
      refine (uvRead_any _ w3 (by omega) (e0.old hb13) (e1.old hb13) (e2.old hb13)).mono ?_
      rw [HA.out.2.1, UvReadPost_ok, HA.out.2.2.2]
      rintro e w4 ⟨hb4, rfl⟩
      go_wp2_with fail
      go_ret
      exact ⟨rfl, Old.trans hb13 hb4⟩
    · go_enter Tryd.func3, Tryd.ntmps3
      go_wp2_with fail
      go_ret
      exact ⟨rfl, Below.refl _ _⟩
  · go_enter Tryd.func3, Tryd.ntmps3
    go_wp2_with fail
    go_ret
    exact ⟨rfl, Below.refl _ _⟩
end Go.Proofs.YtlfdnigfijgmjaaDoor
