/-
  The walks of impl.UvPut, UvSize, UvRead, spec.Varint and laws.uvOne. Conditions: as each contract says.
-/
import Derived.Test.YtgkhofnedhlgdaaDoorUvW
import Derived.Deep.RegionHeld3
namespace Go.Proofs.YtgkhofnedhlgdaaDoor
open Go.RowKit

theorem ret_str {a b : List UInt8} (h : a = b) : Ending.returned (.string ⟨a.toArray⟩) = .returned (.string ⟨b.toArray⟩) := by rw [h]

set_option maxRecDepth 100000 in
theorem uvPut_any (n : Int) (w : World) (h0 : 0 ≤ n) (h1 : n < 18446744073709551616) :
    Calls Tryd.prog 16 #[.int .u64 n] w fun e w' => e = .returned (.string ⟨(Lib.uvarint n.toNat).toArray⟩) ∧ Below w.heap.size w w' := by
  go_enter Tryd.func16, Tryd.ntmps16
  go_wp2_with fail
  refine (toUvarint_any n _ h0 h1).mono ?_
  rintro _ w1 ⟨rfl, rfl⟩
  have hcv := conv_str (P := Tryd.prog) Tryd.underlying51 Tryd.underlying5 Tryd.underlying9 (c := (Lib.uvarint n.toNat).length) (bs_new w 5 (Lib.uvarint n.toNat)) rfl
  go_wp2_with fail
  go_ret
  exact ⟨rfl, (Below.refl _ _).alloc (Nat.le_refl _) _⟩

/-- What UvRead comes to. -/
def UvReadPost (r : UvR) (w : World) (e : Ending) (w' : World) : Prop :=
  Below w.heap.size w w' ∧ e = match r with
    | .ok n s => .returned (.tuple #[.int .u64 n, .int .i64 s, .bool true])
    | _ => .returned (.tuple #[.int .u64 0, .int .i64 0, .bool false])

set_option maxRecDepth 100000 in
theorem uvRead_any (l : List UInt8) (w : World) (hl : l.length ≤ 4611686018427387904) (e0 : Er w 2) (e1 : Er w 3) (e2 : Er w 5) :
    Calls Tryd.prog 29 #[.string ⟨l.toArray⟩] w (UvReadPost (uvRd l 0 0) w) := by
  have hcv := fun W => Lib.run_convert_string_bytes (P := Tryd.prog) W 9 51 5 ⟨l.toArray⟩ Tryd.underlying9 Tryd.underlying51 Tryd.underlying5
  have hb := bw_below w 5 ⟨l.toArray⟩
  have hbs := bw_bs w 5 ⟨l.toArray⟩
  generalize hr : uvRd l 0 0 = r
  have HR := Lib.hid hr
  clear hr
  go_enter Tryd.func29, Tryd.ntmps29
  go_wp2_with fail
  generalize Lib.bytesWorld w 5 ⟨l.toArray⟩ = W at *
  refine (fromUvarint_any w.heap.size 0 _ l W hl hbs (e0.old hb) (e1.old hb) (e2.old hb)).mono ?_
  rw [HR.out]
  rintro e w1 ⟨⟨k, rfl⟩, h⟩
  have hbk := below_drewN hb k
  cases r with
  | ok n s =>
    subst h
    go_wp2_with fail
    go_quiet (fail)
    go_wp2_with fail
    go_ret3
    exact ⟨below_drewN hbk _, rfl⟩
  | _ =>
    obtain ⟨t, p, rfl⟩ := h
    go_wp2_with fail
    go_quiet (fail)
    go_wp2_with fail
    go_ret3
    exact ⟨below_drewN hbk _, rfl⟩
end Go.Proofs.YtgkhofnedhlgdaaDoor
