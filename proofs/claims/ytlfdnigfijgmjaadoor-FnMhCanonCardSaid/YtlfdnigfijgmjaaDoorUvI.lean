/-
  The walks of impl.UvPut, UvSize, UvRead, spec.Varint and laws.uvOne. Conditions: as each contract says.
-/
import Derived.Test.YtlfdnigfijgmjaaDoorUvW
import Derived.Deep.RegionHeld3
namespace Go.Proofs.YtlfdnigfijgmjaaDoor
open Go.RowKit

theorem ret_str {a b : List UInt8} (h : a = b) : Ending.returned (.string ⟨a.toArray⟩) = .returned (.string ⟨b.toArray⟩) := by rw [h]

set_option maxRecDepth 100000 in
theorem uvPut_any (n : Int) (w : World) (h0 : 0 ≤ n) (h1 : n < 18446744073709551616) :
    Calls Tryd.prog 7 #[.int .u64 n] w fun e w' => e = .returned (.string ⟨(Lib.uvarint n.toNat).toArray⟩) ∧ Below w.heap.size w w' := by
  go_enter Tryd.func7, Tryd.ntmps7
  go_wp2_with fail
  refine (toUvarint_any n _ h0 h1).mono ?_
  rintro _ w1 ⟨rfl, rfl⟩
  have hcv := conv_str (P := Tryd.prog) Tryd.underlying27 Tryd.underlying5 Tryd.underlying9 (c := (Lib.uvarint n.toNat).length) (bs_new w 5 (Lib.uvarint n.toNat)) rfl
  go_wp2_with fail
  go_ret
  exact ⟨rfl, (Below.refl _ _).alloc (Nat.le_refl _) _⟩

set_option maxRecDepth 100000 in
theorem uvSize_any (n : Int) (w : World) (h0 : 0 ≤ n) (h1 : n < 18446744073709551616) :
    Calls Tryd.prog 10 #[.int .u64 n] w fun e w' => e = .returned (.int .i64 (Lib.uvarint n.toNat).length) ∧ w = w' := by
  go_enter Tryd.func10, Tryd.ntmps10
  go_wp2_with fail
  refine (uvarintSize_any n _ h0 h1).mono ?_
  rintro _ w1 ⟨rfl, rfl⟩
  go_wp2_with fail
  go_ret
  exact ⟨rfl, rfl⟩

set_option maxRecDepth 100000 in
set_option maxHeartbeats 1000000 in
/-- spec.Varint: the varint's bytes in a row of its own. -/
theorem specVarint_any (n : Int) (w : World) (h0 : 0 ≤ n) (h1 : n < 18446744073709551616) :
    Calls Tryd.prog 9 #[.int .u64 n] w fun e w' => ∃ g cap, e = .returned (.slice (some ⟨g, 0, none⟩) (Lib.uvarint n.toNat).length cap) ∧ w.heap.size ≤ g ∧ (Lib.uvarint n.toNat).length ≤ cap ∧ Bs w' g 0 (Lib.uvarint n.toNat) ∧ Below w.heap.size w w' := by
  obtain ⟨i0, hi, hz0, hz1, hz2⟩ := info_parts info5
  obtain ⟨x, rfl⟩ := Int.eq_ofNat_of_zero_le h0
  simp only [Int.toNat_natCast] at *
  have hL := Lib.uvarint_length64 (x := x) (by omega)
  have hpos := Lib.uvarint_pos x
  obtain ⟨B, hB⟩ : ∃ B, B = w.heap.size := ⟨_, rfl⟩
  go_enter Tryd.func9, Tryd.ntmps9
  go_wp2_with fail
  go_loopw [0, 3] (fun n v wr => ∃ (y : Nat) (pre : List UInt8), n = .int .u64 y ∧ y ≤ x ∧ Lib.uvarint x = pre ++ Lib.uvarint y ∧ wr.ownsRow w.heap.size 5 1 v pre.length (Lib.byteCells pre) ∧ Below w.heap.size w wr) (fun n _ _ => (intOf n).toNat)
  case atStart => exact ⟨x, [], rfl, Nat.le_refl _, rfl, World.ownsRow_nil _ _ _ _, Below.refl _ _⟩
  case round =>
    obtain ⟨y, pre, rfl, hy, hsp, hown, hbel⟩ := hrel
    have hpl : pre.length + (Lib.uvarint y).length = (Lib.uvarint x).length := by
      have h2 := congrArg List.length hsp
      rw [List.length_append] at h2
      omega
    have HSP := Lib.hid hsp
    clear hsp
    by_cases hbig : 128 ≤ y
    · have hor : bits .or .u8 ((y : Int) % 256) 128 = (y : Int) % 128 + 128 := Lib.u8_or128_any _ (by omega) (by omega) |>.trans (by omega)
      have hd : decide ((128 : Int) ≤ (y : Int)) = true := by simp; omega
      clear h0 h1
      go_wp2_with (at_builtin; go_must (refine wpList_append_byte wr rfl (.tmp 6) (.tmp 10) 27 rfl w.heap.size 5 i0 Tryd.underlying27 hi hz0 hz1 hz2 u3 pre rfl hown _ (y % 128 + 128).toUInt8 (by simp; omega) rfl (by omega) hbel.size ?_); intro v1 w1 hown1 hg1)
      have hb1 := grown_old (base := 0) hbel hown hg1
      go_roundw
      case rel => exact ⟨y / 128, pre ++ [(y % 128 + 128).toUInt8], by go_num, by omega, by rw [HSP.out, Lib.uvarint_big hbig]; simp, hown1, hb1⟩
      case measure => simp [intOf]; omega
    · have hd : decide ((128 : Int) ≤ (y : Int)) = false := by simp; omega
      have hb256 : (y : Int) % 256 = y := by omega
      clear h0 h1
      go_wp2_with (at_builtin; go_must (refine wpList_append_byte wr rfl (.tmp 14) (.tmp 17) 27 rfl w.heap.size 5 i0 Tryd.underlying27 hi hz0 hz1 hz2 u3 pre rfl hown _ y.toUInt8 (by simp; omega) rfl (by omega) hbel.size ?_); intro v1 w1 hown1 hg1)
      have hb1 := grown_old (base := 0) hbel hown hg1
      have hfin : pre ++ [y.toUInt8] = Lib.uvarint x := by rw [HSP.out, Lib.uvarint_small (by omega)]
      rw [hfin] at hown1
      obtain ⟨g, cap, hv, hg, _, hcap, hbs⟩ := own_form hown1 (by intro h; rw [h] at hpos; simp at hpos)
      go_ret
      exact ⟨g, cap, by rw [← hv]; rfl, hg, hcap, hbs, hb1⟩

/-- What UvRead comes to. -/
def UvReadPost (r : UvR) (w : World) (e : Ending) (w' : World) : Prop :=
  Below w.heap.size w w' ∧ e = match r with
    | .ok n s => .returned (.tuple #[.int .u64 n, .int .i64 s, .bool true])
    | _ => .returned (.tuple #[.int .u64 0, .int .i64 0, .bool false])

set_option maxRecDepth 100000 in
theorem uvRead_any (l : List UInt8) (w : World) (hl : l.length ≤ 4611686018427387904) (e0 : Er w 0) (e1 : Er w 1) (e2 : Er w 2) :
    Calls Tryd.prog 8 #[.string ⟨l.toArray⟩] w (UvReadPost (uvRd l 0 0) w) := by
  have hcv := fun W => Lib.run_convert_string_bytes (P := Tryd.prog) W 9 27 5 ⟨l.toArray⟩ Tryd.underlying9 Tryd.underlying27 Tryd.underlying5
  have hb := bw_below w 5 ⟨l.toArray⟩
  have hbs := bw_bs w 5 ⟨l.toArray⟩
  generalize hr : uvRd l 0 0 = r
  have HR := Lib.hid hr
  clear hr
  go_enter Tryd.func8, Tryd.ntmps8
  go_wp2_with fail
  generalize Lib.bytesWorld w 5 ⟨l.toArray⟩ = W at *
  refine (fromUvarint_any w.heap.size 0 _ l W hl hbs (e0.old hb) (e1.old hb) (e2.old hb)).mono ?_
  rw [HR.out]
  rintro e w1 ⟨⟨k, rfl⟩, h⟩
  have hbk := below_drewN hb k
  cases r with
  | ok n s =>
    subst h
    go_wp2_with fail
    go_quiet (fail)
    go_wp2_with fail
    go_ret3
    exact ⟨below_drewN hbk _, rfl⟩
  | _ =>
    obtain ⟨t, p, rfl⟩ := h
    go_wp2_with fail
    go_quiet (fail)
    go_wp2_with fail
    go_ret3
    exact ⟨below_drewN hbk _, rfl⟩
end Go.Proofs.YtlfdnigfijgmjaaDoor
