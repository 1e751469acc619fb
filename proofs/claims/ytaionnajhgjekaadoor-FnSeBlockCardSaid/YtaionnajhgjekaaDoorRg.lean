/-
  varint.ReadUvarint over a cid.bufByteReader, given its ReadByte's contract. Conditions: as the contract says.
-/
import Derived.Test.YtaionnajhgjekaaDoorRdL
namespace Go.Proofs.YtaionnajhgjekaaDoor
open Go.RowKit

/-- What ReadUvarint comes to, over a reader that stands at number i of the bytes l. -/
def RgPost (res : UvR) (Inv : Nat → World → Prop) (B : Nat) (L : List Nat) (i n : Nat) (aE aU aO aM : Addr) (w : World) (e : Ending) (w' : World) : Prop :=
  Kb B L w w' ∧ ∃ j, j ≤ n ∧ Inv j w' ∧ match res with
    | .ok x s => j = i + s ∧ e = .returned (.tuple #[.int .u64 x, .nilIface])
    | .ends => e = .returned (.tuple #[.int .u64 0, .iface 154 (.pointer (some (if i = n then aE else aU)))])
    | .long => e = .returned (.tuple #[.int .u64 0, .iface 154 (.pointer (some aO))])
    | .needless => e = .returned (.tuple #[.int .u64 0, .iface 154 (.pointer (some aM))])

set_option maxRecDepth 100000 in
set_option maxHeartbeats 2000000 in
theorem readUvarint_genE (r : Nat) (B : Nat) (L : List Nat) (Inv : Nat → World → Prop) (i n : Nat) (l : List UInt8) (aE aU aO aM : Addr) (w : World)
    (hbyte : ∀ j (hj : j < l.length) W, i ≤ j → j ≤ i + 9 → Inv j W → Calls Tryd.prog 111 #[.pointer (some ⟨r, 0, none⟩)] W fun e w' => e = .returned (.tuple #[.int .u8 (l[j].toNat : Nat), .nilIface]) ∧ Inv (j + 1) w' ∧ Kb B L W w')
    (hend : uvRd (l.drop i) 0 0 = .ends → ∀ W, Inv l.length W → Ee W 0 aE → Calls Tryd.prog 111 #[.pointer (some ⟨r, 0, none⟩)] W fun e w' => e = .returned (.tuple #[.int .u8 0, .iface 154 (.pointer (some aE))]) ∧ Inv l.length w' ∧ Kb B L W w')
    (hdr : ∀ j W k, Inv j W → Inv j (W.drewN k))
    (h : Inv i w) (hn : n = l.length) (hi : i ≤ n) (hl : l.length ≤ 4611686018427387904)
    (eE : Ee w 0 aE) (eU : Ee w 2 aU) (eO : Ee w 4 aO) (eM : Ee w 5 aM)
    (rE : 0 < B ∧ 0 ∉ L) (rU : 2 < B ∧ 2 ∉ L) (rO : 4 < B ∧ 4 ∉ L) (rM : 5 < B ∧ 5 ∉ L) :
    Calls Tryd.prog 54 #[.iface 143 (.pointer (some ⟨r, 0, none⟩))] w (RgPost (uvRd (l.drop i) 0 0) Inv B L i n aE aU aO aM w) := by
  have hm : ∀ W, (method 283 143 (.pointer (some ⟨r, 0, none⟩)) "ReadByte").run Tryd.prog W = .ok (111, .pointer (some ⟨r, 0, none⟩)) W := fun _ => by kernel_rfl
  have HL := Lib.hid (And.intro hn hl)
  have HI := Lib.hid (And.intro hbyte (And.intro hend (And.intro hdr (And.intro rE (And.intro rU (And.intro rO rM))))))
  clear hn hl hbyte hend hdr rE rU rO rM
  go_enter Tryd.func54, Tryd.ntmps54
  go_wp2_with fail
  go_loopw [4, 5] (fun x s wr => ∃ (k a : Nat), i + k ≤ n ∧ k ≤ 9 ∧ a < 128 ^ k ∧ x = .int .u64 a ∧ s = .int .u64 (7 * (k : Int)) ∧ Inv (i + k) wr ∧ Kb B L w wr ∧ uvRd (l.drop i) 0 0 = uvRd (l.drop (i + k)) k a) (fun _ s _ => 70 - (intOf s).toNat)
  case atStart => exact ⟨0, 0, by omega, by omega, by simp, rfl, rfl, h, Kb.refl, by simp⟩
  case round =>
    obtain ⟨k, a, hk, hk9, ha, rfl, rfl, hR, hK, hrd⟩ := hrel
    have HRD := Lib.hid hrd
    clear hrd
    have eE' := eE.kb hK HI.out.2.2.2.1.1 HI.out.2.2.2.1.2
    have eU' := eU.kb hK HI.out.2.2.2.2.1.1 HI.out.2.2.2.2.1.2
    have eO' := eO.kb hK HI.out.2.2.2.2.2.1.1 HI.out.2.2.2.2.2.1.2
    have eM' := eM.kb hK HI.out.2.2.2.2.2.2.1 HI.out.2.2.2.2.2.2.2
    by_cases hlt : i + k < n
    · have hlt' : i + k < l.length := by rw [← HL.out.1]; exact hlt
      go_wp2_with fail
      have hst := uvRd_step_at l (i + k) k a hlt'
      have hb := l[i + k].toNat_lt
      refine (HI.out.1 (i + k) hlt' wr (Nat.le_add_right _ _) (by omega) hR).mono ?_
      obtain ⟨b, hbv⟩ : ∃ b, l[i + k].toNat = b := ⟨_, rfl⟩
      rw [hbv] at hb hst ⊢
      clear hbv
      have HST := Lib.hid hst
      clear hst
      rintro _ w1 ⟨rfl, hR1, hK1⟩
      have eE1 := eE'.kb hK1 HI.out.2.2.2.1.1 HI.out.2.2.2.1.2
      have eU1 := eU'.kb hK1 HI.out.2.2.2.2.1.1 HI.out.2.2.2.2.1.2
      have eO1 := eO'.kb hK1 HI.out.2.2.2.2.2.1.1 HI.out.2.2.2.2.2.1.2
      have eM1 := eM'.kb hK1 HI.out.2.2.2.2.2.2.1 HI.out.2.2.2.2.2.2.2
      have hK01 : Kb B L w w1 := hK.trans hK1
      clear eE' eU' eO' eM' hK1 hR hK hm
      unfold Ee at eO1 eM1
      have d8 : ∃ t, ((7 * (k : Int)) == 56) = t ∧ (t = true ↔ k = 8) := ⟨_, rfl, by simp; omega⟩
      obtain ⟨t8, d8, d8'⟩ := d8
      have d128 : ∃ t, decide ((128 : Int) ≤ (b : Int)) = t ∧ (t = true ↔ 128 ≤ b) := ⟨_, rfl, by simp; omega⟩
      obtain ⟨t128, d128, d128'⟩ := d128
      have dlt : decide ((b : Int) < 128) = !t128 := by rw [← d128]; by_cases h : (128 : Int) ≤ b <;> simp [h] <;> omega
      have d9 : ∃ t, decide ((63 : Int) ≤ 7 * (k : Int)) = t ∧ (t = true ↔ 9 ≤ k) := ⟨_, rfl, by simp; omega⟩
      obtain ⟨t9, d9, d9'⟩ := d9
      have d0 : ∃ t, ((b : Int) == 0) = t ∧ (t = true ↔ b = 0) := ⟨_, rfl, by simp⟩
      obtain ⟨t0, d0, d0'⟩ := d0
      have dk : ∃ t, decide ((0 : Int) < 7 * (k : Int)) = t ∧ (t = true ↔ 0 < k) := ⟨_, rfl, by simp; omega⟩
      obtain ⟨tk, dk, dk'⟩ := dk
      have H := Lib.hid (And.intro d8' (And.intro d128' (And.intro d9' (And.intro d0' dk'))))
      clear d8' d128' d9' d0' dk'
      by_cases hL : (k = 8 ∧ 128 ≤ b) ∨ 9 ≤ k
      · have HE := Lib.hid (show uvRd (l.drop i) 0 0 = .long by rw [HRD.out, HST.out, if_pos hL])
        have HL2 := Lib.hid hL
        clear hL
        cases t8 <;> cases t9 <;> cases t128
        all_goals try (exfalso; obtain ⟨h1, h2, h3, h4, h5⟩ := H.out; have := HL2.out; simp at h1 h2 h3; omega)
        all_goals go_wp2_with fail
        all_goals go_quiet (fail)
        all_goals go_wp2_with fail
        all_goals go_ret2
        all_goals rw [HE.out]
        all_goals exact ⟨hK01.drewN _, _, by omega, HI.out.2.2.1 _ _ _ hR1, rfl⟩
      · obtain rfl : t9 = false := by obtain ⟨h1, h2, h3, h4, h5⟩ := H.out; cases t9 <;> simp at h3 ⊢; omega
        by_cases hN : 128 ≤ b
        · obtain rfl : t8 = false := by obtain ⟨h1, h2, h3, h4, h5⟩ := H.out; cases t8 <;> simp at h1 ⊢; omega
          obtain rfl : t128 = true := by obtain ⟨h1, h2, h3, h4, h5⟩ := H.out; cases t128 <;> simp at h2 ⊢; omega
          have hA := and127 b hb
          have hS := shl_wrap (b % 128) k (by omega) (by omega)
          have hO := or_add a (b % 128) k ha (by omega) (by omega) _ rfl
          have HO := Lib.hid (And.intro hA (And.intro hS hO))
          have HL2 := Lib.hid (And.intro hL hN)
          clear hA hS hO hL hN
          go_wp2_with fail
          all_goals go_roundw
          case rel =>
            have hpow : a + b % 128 * 128 ^ k < 128 ^ (k + 1) := by
              rw [Nat.pow_succ]
              have : b % 128 * 128 ^ k ≤ 127 * 128 ^ k := Nat.mul_le_mul_right _ (by omega)
              omega
            have hL := HL2.out
            refine ⟨k + 1, a + b % 128 * 128 ^ k, by omega, by omega, hpow, ?_, by go_num, hR1, hK01, by rw [HRD.out, HST.out, if_neg hL.1, if_neg (by omega)]; rfl⟩
            rw [HO.out.1, show IntKind.u64.wrap ((b % 128 : Nat) : Int) = ((b % 128 : Nat) : Int) from by rw [IntKind.wrap_u64]; omega, HO.out.2.1, HO.out.2.2]
          case measure => simp [intOf]; omega
        · obtain rfl : t128 = false := by obtain ⟨h1, h2, h3, h4, h5⟩ := H.out; cases t128 <;> simp at h2 ⊢; omega
          by_cases h0 : b = 0 ∧ 0 < k
          · have HE := Lib.hid (show uvRd (l.drop i) 0 0 = .needless by rw [HRD.out, HST.out, if_neg hL, if_pos (by omega), if_pos h0])
            obtain rfl : t0 = true := by obtain ⟨h1, h2, h3, h4, h5⟩ := H.out; exact h4.2 h0.1
            obtain rfl : tk = true := by obtain ⟨h1, h2, h3, h4, h5⟩ := H.out; exact h5.2 h0.2
            clear hL hN h0
            cases t8
            all_goals go_wp2_with fail
            all_goals go_quiet (fail)
            all_goals go_wp2_with fail
            all_goals go_ret2
            all_goals rw [HE.out]
            all_goals exact ⟨hK01.drewN _, _, by omega, HI.out.2.2.1 _ _ _ hR1, rfl⟩
          · have HE := Lib.hid (show uvRd (l.drop i) 0 0 = .ok (a + b * 128 ^ k) (k + 1) by rw [HRD.out, HST.out, if_neg hL, if_pos (by omega), if_neg h0])
            have hS := shl_wrap b k (by omega) (by omega)
            have hO := or_add a b k ha (by omega) (by omega) _ rfl
            have HO := Lib.hid (And.intro hS hO)
            have HB := Lib.hid (And.intro (show IntKind.u64.wrap (b : Int) = (b : Int) by rw [IntKind.wrap_u64]; omega) h0)
            clear hS hO hL hN h0
            cases t8 <;> cases tk <;> cases t0
            all_goals try (exfalso; obtain ⟨h1, h2, h3, h4, h5⟩ := H.out; have := HB.out.2; simp at h4 h5; omega)
            all_goals go_wp2_with fail
            all_goals go_ret2
            all_goals rw [HE.out]
            all_goals refine ⟨hK01, _, by omega, hR1, by omega, ?_⟩
            all_goals have hr : (Value.int .u64 (bits .or .u64 (a : Int) (IntKind.u64.wrap ((b : Int) * 2 ^ (7 * k))))) = .int .u64 ((a + b * 128 ^ k : Nat) : Int) := by rw [HO.out.1, HO.out.2]
            all_goals exact congrArg (fun v => Ending.returned (.tuple #[v, .nilIface])) hr
    · obtain rfl : n = i + k := by omega
      have HE := Lib.hid (show uvRd (l.drop i) 0 0 = .ends by rw [HRD.out, List.drop_of_length_le (by have := HL.out.1; omega)]; rfl)
      go_wp2_with fail
      have hend := HI.out.2.1 HE.out wr (by rw [← HL.out.1]; exact hR) eE'
      rw [← HL.out.1] at hend
      have HE2 := Lib.hid hend
      clear hend
      refine HE2.out.mono ?_
      rintro _ w1 ⟨rfl, hR1, hK1⟩
      have eE1 := eE'.kb hK1 HI.out.2.2.2.1.1 HI.out.2.2.2.1.2
      have eU1 := eU'.kb hK1 HI.out.2.2.2.2.1.1 HI.out.2.2.2.2.1.2
      have hK01 : Kb B L w w1 := hK.trans hK1
      clear eE' eU' eO' eM' hK1 hR hK hm
      unfold Ee at eE1 eU1
      have heq : ∀ W, (binOp .eql 54 (.iface 154 (.pointer (some aE))) (.iface 154 (.pointer (some aE)))).run Tryd.prog W = .ok (.bool true) W := fun W => eql_same aE W
      by_cases hk0 : k = 0
      · have dk : ((7 * (k : Int)) == 0) = true := by simp; omega
        have HK0 := Lib.hid hk0
        clear hk0
        go_wp2_with fail
        go_ret2
        rw [HE.out]
        exact ⟨hK01, _, Nat.le_refl _, hR1, by rw [if_pos (by have := HK0.out; omega)]; rfl⟩
      · have dk : ((7 * (k : Int)) == 0) = false := by simp; omega
        have HK0 := Lib.hid hk0
        clear hk0
        go_wp2_with fail
        go_ret2
        rw [HE.out]
        exact ⟨hK01, _, Nat.le_refl _, hR1, by rw [if_neg (by have := HK0.out; omega)]; rfl⟩

theorem readUvarint_gen (r : Nat) (B : Nat) (L : List Nat) (Inv : Nat → World → Prop) (i n : Nat) (l : List UInt8) (aE aU aO aM : Addr) (w : World)
    (hbyte : ∀ j (hj : j < l.length) W, i ≤ j → j ≤ i + 9 → Inv j W → Calls Tryd.prog 111 #[.pointer (some ⟨r, 0, none⟩)] W fun e w' => e = .returned (.tuple #[.int .u8 (l[j].toNat : Nat), .nilIface]) ∧ Inv (j + 1) w' ∧ Kb B L W w')
    (hend : ∀ W, Inv l.length W → Ee W 0 aE → Calls Tryd.prog 111 #[.pointer (some ⟨r, 0, none⟩)] W fun e w' => e = .returned (.tuple #[.int .u8 0, .iface 154 (.pointer (some aE))]) ∧ Inv l.length w' ∧ Kb B L W w')
    (hdr : ∀ j W k, Inv j W → Inv j (W.drewN k))
    (h : Inv i w) (hn : n = l.length) (hi : i ≤ n) (hl : l.length ≤ 4611686018427387904)
    (eE : Ee w 0 aE) (eU : Ee w 2 aU) (eO : Ee w 4 aO) (eM : Ee w 5 aM)
    (rE : 0 < B ∧ 0 ∉ L) (rU : 2 < B ∧ 2 ∉ L) (rO : 4 < B ∧ 4 ∉ L) (rM : 5 < B ∧ 5 ∉ L) :
    Calls Tryd.prog 54 #[.iface 143 (.pointer (some ⟨r, 0, none⟩))] w (RgPost (uvRd (l.drop i) 0 0) Inv B L i n aE aU aO aM w) :=
  readUvarint_genE r B L Inv i n l aE aU aO aM w hbyte (fun _ => hend) hdr h hn hi hl eE eU eO eM rE rU rO rM
end Go.Proofs.YtaionnajhgjekaaDoor
