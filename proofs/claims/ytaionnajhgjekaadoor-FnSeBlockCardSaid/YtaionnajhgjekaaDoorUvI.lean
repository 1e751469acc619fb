/-
  The walks of impl.UvPut, UvSize, UvRead, spec.Varint and laws.uvOne. Conditions: as each contract says.
-/
import Derived.Test.YtaionnajhgjekaaDoorUvW
import Derived.Deep.RegionHeld3
namespace Go.Proofs.YtaionnajhgjekaaDoor
open Go.RowKit

theorem ret_str {a b : List UInt8} (h : a = b) : Ending.returned (.string ⟨a.toArray⟩) = .returned (.string ⟨b.toArray⟩) := by rw [h]

set_option maxRecDepth 100000 in
set_option maxHeartbeats 1000000 in
/-- spec.Varint: the varint's bytes in a row of its own. -/
theorem specVarint_any (n : Int) (w : World) (h0 : 0 ≤ n) (h1 : n < 18446744073709551616) :
    Calls Tryd.prog 30 #[.int .u64 n] w fun e w' => ∃ g cap, e = .returned (.slice (some ⟨g, 0, none⟩) (Lib.uvarint n.toNat).length cap) ∧ w.heap.size ≤ g ∧ (Lib.uvarint n.toNat).length ≤ cap ∧ Bs w' g 0 (Lib.uvarint n.toNat) ∧ Below w.heap.size w w' := by
  obtain ⟨i0, hi, hz0, hz1, hz2⟩ := info_parts info5
  obtain ⟨x, rfl⟩ := Int.eq_ofNat_of_zero_le h0
  simp only [Int.toNat_natCast] at *
  have hL := Lib.uvarint_length64 (x := x) (by omega)
  have hpos := Lib.uvarint_pos x
  obtain ⟨B, hB⟩ : ∃ B, B = w.heap.size := ⟨_, rfl⟩
  go_enter Tryd.func30, Tryd.ntmps30
  go_wp2_with fail
  go_loopw [0, 3] (fun n v wr => ∃ (y : Nat) (pre : List UInt8), n = .int .u64 y ∧ y ≤ x ∧ Lib.uvarint x = pre ++ Lib.uvarint y ∧ wr.ownsRow w.heap.size 5 1 v pre.length (Lib.byteCells pre) ∧ Below w.heap.size w wr) (fun n _ _ => (intOf n).toNat)
  case atStart => exact ⟨x, [], rfl, Nat.le_refl _, rfl, World.ownsRow_nil _ _ _ _, Below.refl _ _⟩
  case round =>
    obtain ⟨y, pre, rfl, hy, hsp, hown, hbel⟩ := hrel
    have hpl : pre.length + (Lib.uvarint y).length = (Lib.uvarint x).length := by
      have h2 := congrArg List.length hsp
      rw [List.length_append] at h2
      omega
    have HSP := Lib.hid hsp
    clear hsp
    by_cases hbig : 128 ≤ y
    · have hor : bits .or .u8 ((y : Int) % 256) 128 = (y : Int) % 128 + 128 := Lib.u8_or128_any _ (by omega) (by omega) |>.trans (by omega)
      have hd : decide ((128 : Int) ≤ (y : Int)) = true := by simp; omega
      clear h0 h1
      go_wp2_with (at_builtin; go_must (refine wpList_append_byte wr rfl (.tmp 6) (.tmp 10) 48 rfl w.heap.size 5 i0 Tryd.underlying48 hi hz0 hz1 hz2 u3 pre rfl hown _ (y % 128 + 128).toUInt8 (by simp; omega) rfl (by omega) hbel.size ?_); intro v1 w1 hown1 hg1)
      have hb1 := grown_old hbel hown hg1
      go_roundw
      case rel => exact ⟨y / 128, pre ++ [(y % 128 + 128).toUInt8], by go_num, by omega, by rw [HSP.out, Lib.uvarint_big hbig]; simp, hown1, hb1⟩
      case measure => simp [intOf]; omega
    · have hd : decide ((128 : Int) ≤ (y : Int)) = false := by simp; omega
      have hb256 : (y : Int) % 256 = y := by omega
      clear h0 h1
      go_wp2_with (at_builtin; go_must (refine wpList_append_byte wr rfl (.tmp 14) (.tmp 17) 48 rfl w.heap.size 5 i0 Tryd.underlying48 hi hz0 hz1 hz2 u3 pre rfl hown _ y.toUInt8 (by simp; omega) rfl (by omega) hbel.size ?_); intro v1 w1 hown1 hg1)
      have hb1 := grown_old hbel hown hg1
      have hfin : pre ++ [y.toUInt8] = Lib.uvarint x := by rw [HSP.out, Lib.uvarint_small (by omega)]
      rw [hfin] at hown1
      obtain ⟨g, cap, hv, hg, _, hcap, hbs⟩ := own_form hown1 (by intro h; rw [h] at hpos; simp at hpos)
      go_ret
      exact ⟨g, cap, by rw [← hv]; rfl, hg, hcap, hbs, hb1⟩

/-- What UvRead comes to. -/
def UvReadPost (r : UvR) (w : World) (e : Ending) (w' : World) : Prop :=
  Below w.heap.size w w' ∧ e = match r with
    | .ok n s => .returned (.tuple #[.int .u64 n, .int .i64 s, .bool true])
    | _ => .returned (.tuple #[.int .u64 0, .int .i64 0, .bool false])

end Go.Proofs.YtaionnajhgjekaaDoor
