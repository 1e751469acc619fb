/-
  The walks of varint.ReadUvarint over a bytes.Reader, of impl.kind and impl.UvReader. Conditions: as each contract says.
  The walks of laws.uvOne, FnUvPut and FnUvTwo: each returns true, and nothing that was there has turned. Conditions: the package's three errors are not nil (they are as start-up lays them).
  The walks of impl.UvReader and laws.FnUvReader. Conditions: the errors are as start-up lays them: io.EOF lies elsewhere than the others.
  varint.ReadUvarint over a cid.bufByteReader, given its ReadByte's contract. Conditions: as the contract says.
  cid.bufByteReader over a bytes.Reader: the walks of ReadByte and toBufByteReader. Conditions: as each contract says.
-/
import Derived.Test.YtlafdmmjbkdkaaaGreatDoorJUvW
import Derived.Test.YtlafdmmjbkdkaaaGreatDoorJRf
import Derived.ArgAppend
import Derived.Stop.Asserts
namespace Go.Proofs.YtlafdmmjbkdkaaaGreatDoor
open Go.RowKit

theorem uvRd_step_at (l : List UInt8) (m k a : Nat) (hm : m < l.length) : uvRd (l.drop m) k a = if (k = 8 ∧ 128 ≤ l[m].toNat) ∨ 9 ≤ k then .long
    else if l[m].toNat < 128 then (if l[m].toNat = 0 ∧ 0 < k then .needless else .ok (a + l[m].toNat * 128 ^ k) (k + 1)) else uvRd (l.drop (m + 1)) (k + 1) (a + l[m].toNat % 128 * 128 ^ k) := by
  rw [List.drop_eq_getElem_cons hm, uvRd]

/-- What ReadUvarint comes to, of the bytes from number i on. -/
def RuPost (res : UvR) (r g o n c i : Nat) (aE aU aO aM : Addr) (w : World) (e : Ending) (w' : World) : Prop :=
  Kp [r] w w' ∧ ∃ j, j ≤ n ∧ Rdr w' r g o n c j ∧ match res with
    | .ok x s => j = i + s ∧ e = .returned (.tuple #[.int .u64 x, .nilIface])
    | .ends => e = .returned (.tuple #[.int .u64 0, .iface 110 (.pointer (some (if i = n then aE else aU)))])
    | .long => e = .returned (.tuple #[.int .u64 0, .iface 110 (.pointer (some aO))])
    | .needless => e = .returned (.tuple #[.int .u64 0, .iface 110 (.pointer (some aM))])

set_option maxRecDepth 100000 in
set_option maxHeartbeats 2000000 in
theorem readUvarint_any (r g o n c i : Nat) (l : List UInt8) (aE aU aO aM : Addr) (w : World) (h : Rdr w r g o n c i) (hc : Bs w g o l) (hn : n = l.length) (hi : i ≤ n) (hl : l.length ≤ 4611686018427387904) (hgr : g ≠ r)
    (eE : Ee w 2 aE) (eU : Ee w 7 aU) (eO : Ee w 10 aO) (eM : Ee w 11 aM)
    (rE : r ≠ 2) (rU : r ≠ 7) (rO : r ≠ 10) (rM : r ≠ 11) :
    Calls Tryz.prog 92 #[.iface 51 (.pointer (some ⟨r, 0, none⟩))] w (RuPost (uvRd (l.drop i) 0 0) r g o n c i aE aU aO aM w) := by
  have hmr : ∀ W, (method 424 51 (.pointer (some ⟨r, 0, none⟩)) "ReadByte").run Tryz.prog W = .ok (205, .pointer (some ⟨r, 0, none⟩)) W := fun _ => by kernel_rfl
  have HL := Lib.hid (And.intro hn hl)
  clear hn hl
  go_enter Tryz.func92, Tryz.ntmps92
  go_wp2_with fail
  go_loopw [4, 5] (fun x s wr => ∃ (k a : Nat), i + k ≤ n ∧ k ≤ 9 ∧ a < 128 ^ k ∧ x = .int .u64 a ∧ s = .int .u64 (7 * (k : Int)) ∧ Rdr wr r g o n c (i + k) ∧ Kp [r] w wr ∧ uvRd (l.drop i) 0 0 = uvRd (l.drop (i + k)) k a) (fun _ s _ => 70 - (intOf s).toNat)
  case atStart => exact ⟨0, 0, by omega, by omega, by simp, rfl, rfl, h, Kp.refl _ _, by simp⟩
  case round =>
    obtain ⟨k, a, hk, hk9, ha, rfl, rfl, hR, hK, hrd⟩ := hrel
    have HRD := Lib.hid hrd
    clear hrd
    have eE' := eE.kp hK (by simp; omega)
    have eU' := eU.kp hK (by simp; omega)
    have eO' := eO.kp hK (by simp; omega)
    have eM' := eM.kp hK (by simp; omega)
    by_cases hlt : i + k < n
    · have hlt' : i + k < l.length := by rw [← HL.out.1]; exact hlt
      go_wp2_with fail
      have hst := uvRd_step_at l (i + k) k a hlt'
      have hb := l[i + k].toNat_lt
      refine (readByte_any r g o n c (i + k) l wr hR (hc.kp hK (by simpa using hgr)) HL.out.1 hlt' HL.out.2 hgr).mono ?_
      obtain ⟨b, hbv⟩ : ∃ b, l[i + k].toNat = b := ⟨_, rfl⟩
      rw [hbv] at hb hst ⊢
      clear hbv
      have HST := Lib.hid hst
      clear hst
      rintro _ w1 ⟨rfl, hR1, hK1⟩
      have eE1 := eE'.kp hK1 (by simp; omega)
      have eU1 := eU'.kp hK1 (by simp; omega)
      have eO1 := eO'.kp hK1 (by simp; omega)
      have eM1 := eM'.kp hK1 (by simp; omega)
      have hK01 : Kp [r] w w1 := hK.trans hK1
      clear eE' eU' eO' eM' hK1 hR hK hmr
      unfold Ee at eO1 eM1
      have d8 : ∃ t, ((7 * (k : Int)) == 56) = t ∧ (t = true ↔ k = 8) := ⟨_, rfl, by simp; omega⟩
      obtain ⟨t8, d8, d8'⟩ := d8
      have d128 : ∃ t, decide ((128 : Int) ≤ (b : Int)) = t ∧ (t = true ↔ 128 ≤ b) := ⟨_, rfl, by simp; omega⟩
      obtain ⟨t128, d128, d128'⟩ := d128
      have dlt : decide ((b : Int) < 128) = !t128 := by rw [← d128]; by_cases h : (128 : Int) ≤ b <;> simp [h] <;> omega
      have d9 : ∃ t, decide ((63 : Int) ≤ 7 * (k : Int)) = t ∧ (t = true ↔ 9 ≤ k) := ⟨_, rfl, by simp; omega⟩
      obtain ⟨t9, d9, d9'⟩ := d9
      have d0 : ∃ t, ((b : Int) == 0) = t ∧ (t = true ↔ b = 0) := ⟨_, rfl, by simp⟩
      obtain ⟨t0, d0, d0'⟩ := d0
      have dk : ∃ t, decide ((0 : Int) < 7 * (k : Int)) = t ∧ (t = true ↔ 0 < k) := ⟨_, rfl, by simp; omega⟩
      obtain ⟨tk, dk, dk'⟩ := dk
      have H := Lib.hid (And.intro d8' (And.intro d128' (And.intro d9' (And.intro d0' dk'))))
      clear d8' d128' d9' d0' dk'
      by_cases hL : (k = 8 ∧ 128 ≤ b) ∨ 9 ≤ k
      · have HE := Lib.hid (show uvRd (l.drop i) 0 0 = .long by rw [HRD.out, HST.out, if_pos hL])
        have HL2 := Lib.hid hL
        clear hL
        cases t8 <;> cases t9 <;> cases t128
        all_goals try (exfalso; obtain ⟨h1, h2, h3, h4, h5⟩ := H.out; have := HL2.out; simp at h1 h2 h3; omega)
        all_goals go_wp2_with fail
        all_goals go_quiet (fail)
        all_goals go_wp2_with fail
        all_goals go_ret2
        all_goals rw [HE.out]
        all_goals exact ⟨hK01.drewN _, _, by omega, hR1.drewN _, rfl⟩
      · obtain rfl : t9 = false := by obtain ⟨h1, h2, h3, h4, h5⟩ := H.out; cases t9 <;> simp at h3 ⊢; omega
        by_cases hN : 128 ≤ b
        · obtain rfl : t8 = false := by obtain ⟨h1, h2, h3, h4, h5⟩ := H.out; cases t8 <;> simp at h1 ⊢; omega
          obtain rfl : t128 = true := by obtain ⟨h1, h2, h3, h4, h5⟩ := H.out; cases t128 <;> simp at h2 ⊢; omega
          have hA := and127 b hb
          have hS := shl_wrap (b % 128) k (by omega) (by omega)
          have hO := or_add a (b % 128) k ha (by omega) (by omega) _ rfl
          have HO := Lib.hid (And.intro hA (And.intro hS hO))
          have HL2 := Lib.hid (And.intro hL hN)
          clear hA hS hO hL hN
          go_wp2_with fail
          all_goals go_roundw
          case rel =>
            have hpow : a + b % 128 * 128 ^ k < 128 ^ (k + 1) := by
              rw [Nat.pow_succ]
              have : b % 128 * 128 ^ k ≤ 127 * 128 ^ k := Nat.mul_le_mul_right _ (by omega)
              omega
            have hL := HL2.out
            refine ⟨k + 1, a + b % 128 * 128 ^ k, by omega, by omega, hpow, ?_, by go_num, hR1, hK01, by rw [HRD.out, HST.out, if_neg hL.1, if_neg (by omega)]; rfl⟩
            rw [HO.out.1, show IntKind.u64.wrap ((b % 128 : Nat) : Int) = ((b % 128 : Nat) : Int) from by rw [IntKind.wrap_u64]; omega, HO.out.2.1, HO.out.2.2]
          case measure => simp [intOf]; omega
        · obtain rfl : t128 = false := by obtain ⟨h1, h2, h3, h4, h5⟩ := H.out; cases t128 <;> simp at h2 ⊢; omega
          by_cases h0 : b = 0 ∧ 0 < k
          · have HE := Lib.hid (show uvRd (l.drop i) 0 0 = .needless by rw [HRD.out, HST.out, if_neg hL, if_pos (by omega), if_pos h0])
            obtain rfl : t0 = true := by obtain ⟨h1, h2, h3, h4, h5⟩ := H.out; exact h4.2 h0.1
            obtain rfl : tk = true := by obtain ⟨h1, h2, h3, h4, h5⟩ := H.out; exact h5.2 h0.2
            clear hL hN h0
            cases t8
            all_goals go_wp2_with fail
            all_goals go_quiet (fail)
            all_goals go_wp2_with fail
            all_goals go_ret2
            all_goals rw [HE.out]
            all_goals exact ⟨hK01.drewN _, _, by omega, hR1.drewN _, rfl⟩
          · have HE := Lib.hid (show uvRd (l.drop i) 0 0 = .ok (a + b * 128 ^ k) (k + 1) by rw [HRD.out, HST.out, if_neg hL, if_pos (by omega), if_neg h0])
            have hS := shl_wrap b k (by omega) (by omega)
            have hO := or_add a b k ha (by omega) (by omega) _ rfl
            have HO := Lib.hid (And.intro hS hO)
            have HB := Lib.hid (And.intro (show IntKind.u64.wrap (b : Int) = (b : Int) by rw [IntKind.wrap_u64]; omega) h0)
            clear hS hO hL hN h0
            cases t8 <;> cases tk <;> cases t0
            all_goals try (exfalso; obtain ⟨h1, h2, h3, h4, h5⟩ := H.out; have := HB.out.2; simp at h4 h5; omega)
            all_goals go_wp2_with fail
            all_goals go_ret2
            all_goals rw [HE.out]
            all_goals refine ⟨hK01, _, by omega, hR1, by omega, ?_⟩
            all_goals have hr : (Value.int .u64 (bits .or .u64 (a : Int) (IntKind.u64.wrap ((b : Int) * 2 ^ (7 * k))))) = .int .u64 ((a + b * 128 ^ k : Nat) : Int) := by rw [HO.out.1, HO.out.2]
            all_goals exact congrArg (fun v => Ending.returned (.tuple #[v, .nilIface])) hr
    · obtain rfl : n = i + k := by omega
      have HE := Lib.hid (show uvRd (l.drop i) 0 0 = .ends by rw [HRD.out, List.drop_of_length_le (by have := HL.out.1; omega)]; rfl)
      go_wp2_with fail
      refine (readByte_end r g o (i + k) c _ wr hR (by have := HL.out; omega) eE' rE).mono ?_
      rintro _ w1 ⟨rfl, hR1, hK1⟩
      have eE1 := eE'.kp hK1 (by simp; omega)
      have eU1 := eU'.kp hK1 (by simp; omega)
      have hK01 : Kp [r] w w1 := hK.trans hK1
      clear eE' eU' eO' eM' hK1 hR hK hmr
      unfold Ee at eE1 eU1
      have heq : ∀ W, (binOp .eql 49 (.iface 110 (.pointer (some aE))) (.iface 110 (.pointer (some aE)))).run Tryz.prog W = .ok (.bool true) W := fun W => eql_same aE W
      by_cases hk0 : k = 0
      · have dk : ((7 * (k : Int)) == 0) = true := by simp; omega
        have HK0 := Lib.hid hk0
        clear hk0
        go_wp2_with fail
        go_ret2
        rw [HE.out]
        exact ⟨hK01, _, Nat.le_refl _, hR1, by rw [if_pos (by have := HK0.out; omega)]; rfl⟩
      · have dk : ((7 * (k : Int)) == 0) = false := by simp; omega
        have HK0 := Lib.hid hk0
        clear hk0
        go_wp2_with fail
        go_ret2
        rw [HE.out]
        exact ⟨hK01, _, Nat.le_refl _, hR1, by rw [if_neg (by have := HK0.out; omega)]; rfl⟩

end Go.Proofs.YtlafdmmjbkdkaaaGreatDoor

namespace Go.Proofs.YtlafdmmjbkdkaaaGreatDoor
open Go.RowKit

theorem UvReadPost_ok (n s : Nat) (w : World) : UvReadPost (.ok n s) w = fun e w' => Below w.heap.size w w' ∧ e = .returned (.tuple #[.int .u64 n, .int .i64 s, .bool true]) := rfl

end Go.Proofs.YtlafdmmjbkdkaaaGreatDoor

namespace Go.Proofs.YtlafdmmjbkdkaaaGreatDoor
open Go.RowKit

/-- What UvReader comes to. -/
def UrPost (res : UvR) (n : Nat) (w : World) (e : Ending) (w' : World) : Prop :=
  Below w.heap.size w w' ∧ match res with
    | .ok x s => e = .returned (.tuple #[.int .u64 x, .int .i64 s, .int .u8 0])
    | .ends => ∃ m : Int, e = .returned (.tuple #[.int .u64 0, .int .i64 m, .int .u8 (if n = 0 then 1 else 2)])
    | _ => ∃ m : Int, e = .returned (.tuple #[.int .u64 0, .int .i64 m, .int .u8 2])

end Go.Proofs.YtlafdmmjbkdkaaaGreatDoor

namespace Go.Proofs.YtlafdmmjbkdkaaaGreatDoor
open Go.RowKit

/-- What ReadUvarint comes to, over a reader that stands at number i of the bytes l. -/
def RgPost (res : UvR) (Inv : Nat → World → Prop) (B : Nat) (L : List Nat) (i n : Nat) (aE aU aO aM : Addr) (w : World) (e : Ending) (w' : World) : Prop :=
  Kb B L w w' ∧ ∃ j, j ≤ n ∧ Inv j w' ∧ match res with
    | .ok x s => j = i + s ∧ e = .returned (.tuple #[.int .u64 x, .nilIface])
    | .ends => e = .returned (.tuple #[.int .u64 0, .iface 110 (.pointer (some (if i = n then aE else aU)))])
    | .long => e = .returned (.tuple #[.int .u64 0, .iface 110 (.pointer (some aO))])
    | .needless => e = .returned (.tuple #[.int .u64 0, .iface 110 (.pointer (some aM))])

end Go.Proofs.YtlafdmmjbkdkaaaGreatDoor

namespace Go.Proofs.YtlafdmmjbkdkaaaGreatDoor
open Go.RowKit

theorem Kb.mono {B B' : Nat} {L : List Nat} {x y : World} (h : Kb B L x y) (hB : B' ≤ B) : Kb B' L x y := ⟨h.os, h.tape, h.output, h.size, fun k hk hn => h.block k (Nat.lt_of_lt_of_le hk hB) hn⟩
theorem Blk.kb {B : Nat} {L : List Nat} {x y : World} {g : Nat} {t : TypeId} {cs : Array Value} (h : Blk x g t cs) (k : Kb B L x y) (hB : g < B) (hg : g ∉ L) : Blk y g t cs := (k.block g hB hg).trans h
theorem Er.kb {B : Nat} {L : List Nat} {x y : World} {g : Nat} (h : Er x g) (k : Kb B L x y) (hB : g < B) (hg : g ∉ L) : Er y g := by
  obtain ⟨t, p, h⟩ := h
  exact ⟨t, p, (k.cell (p := ⟨g, 0, none⟩) hB hg).trans h⟩

theorem bs_pre {w : World} {g : Nat} {t : TypeId} {l : List UInt8} {zs : List Value} (h : Blk w g t (Lib.byteCells l ++ zs).toArray) : Bs w g 0 l := by
  intro j hj
  rw [Nat.zero_add, h.cell]
  simp only [List.getElem?_toArray]
  rw [List.getElem?_append_left (by rw [Lib.byteCells_length]; exact hj)]
  simp [Lib.byteCells, hj]

end Go.Proofs.YtlafdmmjbkdkaaaGreatDoor
