/-
  slices.choosePivot, breakPatterns over a row of uint32: what they answer and what they leave of the row. Conditions: as each contract says.
-/
import Derived.Test.YtcljffldbnoljaaGreatDoorJYd
import Derived.Test.YtcljffldbnoljaaGreatDoorJVe
import Derived.Test.YtcljffldbnoljaaGreatDoorShelf
import Derived.Shelf.SlSortFunc.BreakPatterns
namespace Go.Proofs.YtcljffldbnoljaaGreatDoor
open Go.RowKit Go.Sort Go.Lib

def CpPostU (blk : Nat) (D : Array Nat) (a b : Nat) (w : World) (e : Ending) (w' : World) : Prop :=
  (∃ (x : Nat) (h : Int), a ≤ x ∧ x < b ∧ (h = 0 ∨ h = 1 ∨ h = 2) ∧ e = .returned (.tuple #[.int .i64 (x : Nat), .int .i64 h])) ∧ U32 w' blk D ∧ RowKit.Below w.heap.size w w'

set_option maxRecDepth 100000 in
set_option maxHeartbeats 4000000 in
theorem choosePivot_u32 (B blk cp n : Nat) (hBb : blk < B) (hnc : n ≤ cp) (a b : Nat) (hab : a < b) (hb : b ≤ n) (hn : n ≤ 1000) (w : World) (hBw : B ≤ w.heap.size) (D : Array Nat) (h : U32 w blk D) (hD : D.size = n) :
    Calls Tryz.prog 213 #[.slice (some ⟨blk, 0, none⟩) n cp, .int .i64 a, .int .i64 b] w (CpPostU blk D a b w) := by
  obtain ⟨sb, hsb⟩ : ∃ sb, w.heap.size = sb := ⟨_, rfl⟩
  obtain ⟨V, hV⟩ : ∃ V, w.alloc (.cells #[.int .i64 0] 3) = V := ⟨_, rfl⟩
  have bV : RowKit.Below w.heap.size w V := by rw [← hV]; exact Old.alloc (Below.refl _ _) _
  have BV : Blk V sb 3 #[.int .i64 0] := by rw [← hV, ← hsb]; exact Blk.new _ _ _
  have SV : Sw V sb 0 := ⟨0, Nat.le_refl _, BV⟩
  have hBs : B ≤ sb := by omega
  have hBV : B ≤ V.heap.size := Nat.le_trans hBw bV.size
  have HM := Lib.hid (fun (x y z m : Nat) (hx : x < n) (hy : y < n) (hz : z < n) (hm : m ≤ 100) (W : World) (hW : B ≤ W.heap.size) (h : U32 W blk D) (hs : Sw W sb m) => median_u32 B blk cp n hBb hnc x y z sb m hx hy hz hm hBs W hW D h hD hs)
  have HA := Lib.hid (fun (x m : Nat) (hx0 : 0 < x) (hx : x + 1 < n) (hm : m ≤ 100) (W : World) (hW : B ≤ W.heap.size) (h : U32 W blk D) (hs : Sw W sb m) => medianAdjacent_u32 B blk cp n hBb hnc x sb m hx0 hx hn hm hBs W hW D h hD hs)
  have HV := Lib.hid (And.intro (u32_below hBb h (below_low bV hBw)) (And.intro SV (And.intro bV hBV)))
  obtain ⟨l, hl⟩ : ∃ l : Nat, b - a = l := ⟨_, rfl⟩
  obtain ⟨q, hq⟩ : ∃ q : Nat, l / 4 = q := ⟨_, rfl⟩
  obtain ⟨q2, hq2⟩ : ∃ q2 : Nat, q * 2 = q2 := ⟨_, rfl⟩
  obtain ⟨q3, hq3⟩ : ∃ q3 : Nat, q * 3 = q3 := ⟨_, rfl⟩
  obtain ⟨i, hi⟩ : ∃ i : Nat, a + q = i := ⟨_, rfl⟩
  obtain ⟨j, hj⟩ : ∃ j : Nat, a + q2 = j := ⟨_, rfl⟩
  obtain ⟨k, hk⟩ : ∃ k : Nat, a + q3 = k := ⟨_, rfl⟩
  have w1 : IntKind.i64.wrap ((b : Int) - (a : Int)) = (l : Int) := by rw [IntKind.wrap_i64]; omega
  have w2 : (l : Int) / 4 = (q : Int) := by omega
  have w2' : Int.tdiv (l : Int) 4 = (q : Int) := by rw [Int.tdiv_eq_ediv_of_nonneg (by omega)]; omega
  have w3 : IntKind.i64.wrap (q : Int) = (q : Int) := by rw [IntKind.wrap_i64]; omega
  have w4 : IntKind.i64.wrap ((q : Int) * 2) = (q2 : Int) := by rw [IntKind.wrap_i64]; omega
  have w5 : IntKind.i64.wrap ((q : Int) * 3) = (q3 : Int) := by rw [IntKind.wrap_i64]; omega
  have w6 : IntKind.i64.wrap ((a : Int) + (q : Int)) = (i : Int) := by rw [IntKind.wrap_i64]; omega
  have w7 : IntKind.i64.wrap ((a : Int) + (q2 : Int)) = (j : Int) := by rw [IntKind.wrap_i64]; omega
  have w8 : IntKind.i64.wrap ((a : Int) + (q3 : Int)) = (k : Int) := by rw [IntKind.wrap_i64]; omega
  have hbd : a ≤ i ∧ a ≤ j ∧ a ≤ k ∧ j < b ∧ i < b ∧ k < b ∧ (8 ≤ l → a < i ∧ a < j ∧ a < k ∧ i + 1 < b ∧ j + 1 < b ∧ k + 1 < b) := by omega
  clear h SV BV bV hq hq2 hq3 hi hj hk
  by_cases h8 : 8 ≤ l
  · have d8 : decide ((8 : Int) ≤ (l : Int)) = true := by rw [decide_eq_true_eq]; omega
    have hbe := hbd.2.2.2.2.2.2 h8
    by_cases h50 : 50 ≤ l
    · have d50 : decide ((50 : Int) ≤ (l : Int)) = true := by rw [decide_eq_true_eq]; omega
      have H1 := Lib.hid (HA.out i 0 (by omega) (by omega) (by omega) V HV.out.2.2.2 HV.out.1 HV.out.2.1)
      go_enter Tryz.func213, Tryz.ntmps213
      go_wp2_with fail
      refine H1.out.mono ?_
      rintro e w1 ⟨⟨x1, hx1, rfl⟩, hR1, k1⟩
      have H2 := Lib.hid (HA.out j 3 (by omega) (by omega) (by omega) w1 (Nat.le_trans HV.out.2.2.2 k1.size) hR1.1 hR1.2)
      have K1 := Lib.hid k1
      have hx1b : a ≤ x1 ∧ x1 < n := by omega
      have hx1c : x1 < b := by omega
      clear hR1 k1 hx1 H1
      go_wp2_with fail
      refine H2.out.mono ?_
      rintro e w2 ⟨⟨x2, hx2, rfl⟩, hR2, k2⟩
      have H3 := Lib.hid (HA.out k 6 (by omega) (by omega) (by omega) w2 (Nat.le_trans HV.out.2.2.2 (Nat.le_trans K1.out.size k2.size)) hR2.1 hR2.2)
      have K2 := Lib.hid (K1.out.trans k2)
      have hx2b : a ≤ x2 ∧ x2 < n := by omega
      have hx2c : x2 < b := by omega
      clear hR2 k2 hx2 H2
      go_wp2_with fail
      refine H3.out.mono ?_
      rintro e w3 ⟨⟨x3, hx3, rfl⟩, hR3, k3⟩
      have hx3b : a ≤ x3 ∧ x3 < n := by omega
      have hx3c : x3 < b := by omega
      have H4 := Lib.hid (HM.out x1 x2 x3 9 hx1b.2 hx2b.2 hx3b.2 (by omega) w3 (Nat.le_trans HV.out.2.2.2 (Nat.le_trans K2.out.size k3.size)) hR3.1 hR3.2)
      have K3 := Lib.hid (K2.out.trans k3)
      clear hR3 k3 hx3 H3
      go_wp2_with fail
      refine H4.out.mono ?_
      rintro e w4 ⟨⟨x4, hx4, rfl⟩, hR4, k4⟩
      have hx4b : a ≤ x4 ∧ x4 < b := by omega
      have HT := Lib.hid (And.intro hR4.1 (And.intro hR4.2 (Kp.below ((Kp.of_below HV.out.2.2.1 []).step (K3.out.trans k4) (by simp; omega)))))
      clear hR4 k4 hx4 H4
      obtain ⟨hR, ⟨s, hs, BS⟩, hbw⟩ := HT.out
      have c9 : _ = some (Value.int .i64 (s : Nat)) := BS.cell 0
      have HX := Lib.hid (And.intro hR hbw)
      clear hR BS hbw HT
      by_cases hs0 : s = 0
      · subst hs0
        go_wp2_with fail
        exact bodyPost_ret (v := .tuple #[.int .i64 x4, .int .i64 1]) (by simp [results, Tryz.results213, go_sem]) rfl ⟨⟨_, 1, by omega, by omega, by omega, rfl⟩, HX.out⟩
      · have e0 : ((s : Int) == 0) = false := by rw [beq_eq_false_iff_ne]; omega
        have n0 : ¬ (s : Int) = 0 := by omega
        by_cases hs12 : s = 12
        · subst hs12
          go_wp2_with fail
          exact bodyPost_ret (v := .tuple #[.int .i64 x4, .int .i64 2]) (by simp [results, Tryz.results213, go_sem]) rfl ⟨⟨_, 2, by omega, by omega, by omega, rfl⟩, HX.out⟩
        · have e1 : ((s : Int) == 12) = false := by rw [beq_eq_false_iff_ne]; omega
          have n1 : ¬ (s : Int) = 12 := by omega
          go_wp2_with fail
          exact bodyPost_ret (v := .tuple #[.int .i64 x4, .int .i64 0]) (by simp [results, Tryz.results213, go_sem]) rfl ⟨⟨_, 0, by omega, by omega, by omega, rfl⟩, HX.out⟩
    · have d50 : decide ((50 : Int) ≤ (l : Int)) = false := by rw [decide_eq_false_iff_not]; omega
      have H4 := Lib.hid (HM.out i j k 0 (by omega) (by omega) (by omega) (by omega) V HV.out.2.2.2 HV.out.1 HV.out.2.1)
      go_enter Tryz.func213, Tryz.ntmps213
      go_wp2_with fail
      refine H4.out.mono ?_
      rintro e w4 ⟨⟨x4, hx4, rfl⟩, hR4, k4⟩
      have hx4b : a ≤ x4 ∧ x4 < b := by omega
      have HT := Lib.hid (And.intro hR4.1 (And.intro hR4.2 (Kp.below ((Kp.of_below HV.out.2.2.1 []).step k4 (by simp; omega)))))
      clear hR4 k4 hx4 H4
      obtain ⟨hR, ⟨s, hs, BS⟩, hbw⟩ := HT.out
      have c9 : _ = some (Value.int .i64 (s : Nat)) := BS.cell 0
      have HX := Lib.hid (And.intro hR hbw)
      clear hR BS hbw HT
      by_cases hs0 : s = 0
      · subst hs0
        go_wp2_with fail
        exact bodyPost_ret (v := .tuple #[.int .i64 x4, .int .i64 1]) (by simp [results, Tryz.results213, go_sem]) rfl ⟨⟨_, 1, by omega, by omega, by omega, rfl⟩, HX.out⟩
      · have e0 : ((s : Int) == 0) = false := by rw [beq_eq_false_iff_ne]; omega
        have n0 : ¬ (s : Int) = 0 := by omega
        by_cases hs12 : s = 12
        · subst hs12
          go_wp2_with fail
          exact bodyPost_ret (v := .tuple #[.int .i64 x4, .int .i64 2]) (by simp [results, Tryz.results213, go_sem]) rfl ⟨⟨_, 2, by omega, by omega, by omega, rfl⟩, HX.out⟩
        · have e1 : ((s : Int) == 12) = false := by rw [beq_eq_false_iff_ne]; omega
          have n1 : ¬ (s : Int) = 12 := by omega
          go_wp2_with fail
          exact bodyPost_ret (v := .tuple #[.int .i64 x4, .int .i64 0]) (by simp [results, Tryz.results213, go_sem]) rfl ⟨⟨_, 0, by omega, by omega, by omega, rfl⟩, HX.out⟩
  · have d8 : decide ((8 : Int) ≤ (l : Int)) = false := by rw [decide_eq_false_iff_not]; omega
    have HT := Lib.hid (And.intro HV.out.1 (And.intro HV.out.2.1 HV.out.2.2.1))
    have BS : Blk V sb 3 #[.int .i64 0] := by rw [← hV, ← hsb]; exact Blk.new _ _ _
    have c9 : V.cell? ⟨sb, 0, none⟩ = some (.int .i64 0) := BS.cell 0
    go_enter Tryz.func213, Tryz.ntmps213
    go_wp2_with fail
    exact bodyPost_ret (v := .tuple #[.int .i64 j, .int .i64 1]) (by simp [results, Tryz.results213, go_sem]) rfl ⟨⟨_, 1, by omega, by omega, by omega, rfl⟩, HT.out.1, HT.out.2.2⟩

def BpPostU (blk : Nat) (D : Array Nat) (a b : Nat) (w : World) (e : Ending) (w' : World) : Prop :=
  e = .returned (.tuple #[]) ∧ (∃ D', U32 w' blk D' ∧ PermIn a b D D') ∧ Kp [blk] w w'

set_option maxRecDepth 100000 in
set_option maxHeartbeats 4000000 in
theorem breakPatterns_u32 (B blk cp n : Nat) (hBb : blk < B) (_hnc : n ≤ cp) (a b : Nat) (hab : a < b) (hb : b ≤ n) (hn : n ≤ 1000) (w : World) (hBw : B ≤ w.heap.size) (hblk : blk < w.heap.size) (D : Array Nat) (h : U32 w blk D) (hD : D.size = n) :
    Calls Tryz.prog 212 #[.slice (some ⟨blk, 0, none⟩) n cp, .int .i64 a, .int .i64 b] w (BpPostU blk D a b w) := by
  obtain ⟨L, hL⟩ : ∃ L : Nat, b - a = L := ⟨_, rfl⟩
  have w1 : IntKind.i64.wrap ((b : Int) - (a : Int)) = (L : Int) := by rw [IntKind.wrap_i64]; omega
  by_cases h8 : 8 ≤ L
  · have d8 : decide ((8 : Int) ≤ (L : Int)) = true := by rw [decide_eq_true_eq]; omega
    obtain ⟨rb, hrb⟩ : ∃ rb, w.heap.size = rb := ⟨_, rfl⟩
    obtain ⟨M, hM⟩ : ∃ M : Nat, 1 <<< bitsLen L = M := ⟨_, rfl⟩
    have hM1 : 1 ≤ M := by rw [← hM, Nat.one_shiftLeft]; exact Nat.two_pow_pos _
    have hM2 : M ≤ 2 * L := by rw [← hM, Nat.one_shiftLeft]; exact two_pow_bitsLen_le (by omega)
    obtain ⟨M1, hMe⟩ : ∃ M1 : Nat, M - 1 = M1 := ⟨_, rfl⟩
    obtain ⟨q, hq⟩ : ∃ q : Nat, L / 4 = q := ⟨_, rfl⟩
    obtain ⟨q2, hq2⟩ : ∃ q2 : Nat, q * 2 = q2 := ⟨_, rfl⟩
    obtain ⟨m0, hm0⟩ : ∃ m0 : Nat, a + q2 = m0 := ⟨_, rfl⟩
    obtain ⟨i0, hi0⟩ : ∃ i0 : Nat, m0 - 1 = i0 := ⟨_, rfl⟩
    obtain ⟨e0, he0⟩ : ∃ e0 : Nat, m0 + 1 = e0 := ⟨_, rfl⟩
    have wL : IntKind.u64.wrap (L : Int) = (L : Int) := by rw [IntKind.wrap_u64]; omega
    have w2 : (L : Int) / 4 = (q : Int) := by omega
    have w2' : Int.tdiv (L : Int) 4 = (q : Int) := by rw [Int.tdiv_eq_ediv_of_nonneg (by omega)]; omega
    have w3 : IntKind.i64.wrap (q : Int) = (q : Int) := by rw [IntKind.wrap_i64]; omega
    have w4 : IntKind.i64.wrap ((q : Int) * 2) = (q2 : Int) := by rw [IntKind.wrap_i64]; omega
    have w5 : IntKind.i64.wrap ((a : Int) + (q2 : Int)) = (m0 : Int) := by rw [IntKind.wrap_i64]; omega
    have w6 : IntKind.i64.wrap ((m0 : Int) - 1) = (i0 : Int) := by rw [IntKind.wrap_i64]; omega
    have w7 : IntKind.i64.wrap ((m0 : Int) + 1) = (e0 : Int) := by rw [IntKind.wrap_i64]; omega
    have w8 : IntKind.u64.wrap ((M : Int) - 1) = (M1 : Int) := by rw [IntKind.wrap_u64]; omega
    have hbd : a ≤ i0 ∧ i0 + 2 = e0 ∧ e0 < b ∧ a + L = b ∧ M1 < 2 * L ∧ M1 < 10000 := by omega
    have HBD := Lib.hid hbd
    have HNP := Lib.hid (fun W => slicesPow L (by omega) W)
    rw [hM] at HNP
    have HI := Lib.hid (And.intro trivial (And.intro trivial (And.intro h hD)))
    have hrB : blk ≠ rb ∧ B ≤ rb ∧ blk < rb := by omega
    clear hM hMe hq hq2 hm0 hi0 he0 h hbd hD
    go_enter Tryz.func212, Tryz.ntmps212
    go_wp2_with fail
    refine (HNP.out _).mono ?_
    rintro e W1 ⟨rfl, rfl⟩
    have B1 : Blk (w.alloc (.cells #[.int .u64 (L : Nat)] 208)) rb 208 #[.int .u64 (L : Nat)] := by rw [← hrb]; exact Blk.new _ _ _
    have b1 : RowKit.Below w.heap.size w (w.alloc (.cells #[.int .u64 (L : Nat)] 208)) := Old.alloc (Below.refl _ _) _
    obtain ⟨V, hV⟩ : ∃ V, w.alloc (.cells #[.int .u64 (L : Nat)] 208) = V := ⟨_, rfl⟩
    rw [hV] at B1 b1 ⊢
    have HV := Lib.hid (And.intro B1 (And.intro b1 hrb))
    clear B1 b1 hV hrb
    go_wp2_with fail
    go_loopw [9] (fun x wr => ∃ (t X : Nat) (G : Array Nat), t ≤ 3 ∧ x = .int .i64 ((i0 + t : Nat) : Int) ∧ (U32 wr blk G ∧ Hid (G.size = n ∧ PermIn a b D G)) ∧ (Blk wr rb 208 #[.int .u64 (X : Nat)] ∧ Hid (X < 18446744073709551616)) ∧ Kp [blk, rb] V wr) (fun x _ => e0 + 1 - (intOf x).toNat)
    case atStart => exact ⟨0, L, D, by omega, rfl, ⟨u32_below hBb HI.out.2.2.1 (below_low HV.out.2.1 hBw), Lib.hid ⟨HI.out.2.2.2, permIn_refl _ _ _⟩⟩, ⟨HV.out.1, Lib.hid (by have := HBD.out; omega)⟩, Kp.refl _ _⟩
    case round =>
      obtain ⟨t, X, G, ht, rfl, ⟨hIn, hG⟩, ⟨hB, hX⟩, hK⟩ := hrel
      obtain ⟨i, hi⟩ : ∃ i : Nat, i0 + t = i := ⟨_, rfl⟩
      rw [hi]
      have wi : IntKind.i64.wrap ((i : Int) + 1) = (i : Int) + 1 := by have := HBD.out; rw [IntKind.wrap_i64]; omega
      by_cases ht3 : t < 3
      · have hib : i < n := by have := HBD.out; omega
        have hle : decide ((i : Int) ≤ (e0 : Int)) = true := by have := HBD.out; rw [decide_eq_true_eq]; omega
        have hleN : decide (i ≤ e0) = true := by have := HBD.out; rw [decide_eq_true_eq]; omega
        obtain ⟨X', lX0, hN⟩ := slicesNext rb 0 X hX.out wr (hB.cell 0) (hB.frozen 0)
        have lX' := Lib.hid lX0
        clear lX0
        obtain ⟨O, hO⟩ : ∃ O : Nat, X' &&& M1 = O := ⟨_, rfl⟩
        have lO : O ≤ M1 := by rw [← hO]; exact Nat.and_le_right
        have eAnd : bits .and .u64 (X' : Int) (M1 : Int) = (O : Int) := by
          rw [bits_and_u64_nat _ _ lX'.out (by have := HBD.out; omega), hO]
        have wO : IntKind.i64.wrap (O : Int) = (O : Int) := by have := HBD.out; rw [IntKind.wrap_i64]; omega
        have kN : Kp [rb] wr ((wr.setCell ⟨rb, 0, none⟩ (.int .u64 (X' : Nat))).drewN 3) := ((Kp.refl [rb] wr).setCell (p := ⟨rb, 0, none⟩) (.inl (by simp)) _).drewN 3
        have BN : Blk ((wr.setCell ⟨rb, 0, none⟩ (.int .u64 (X' : Nat))).drewN 3) rb 208 #[.int .u64 (X' : Nat)] := by
          exact hB.set_ 0 (.int .u64 (X' : Nat))
        obtain ⟨W2, hW2⟩ : ∃ W2, (wr.setCell ⟨rb, 0, none⟩ (.int .u64 (X' : Nat))).drewN 3 = W2 := ⟨_, rfl⟩
        rw [hW2] at hN kN BN
        have hR2 : U32 W2 blk G := u32_below hBb hIn (kp_low kN hrB.2.1 (Nat.le_trans hBw (Nat.le_trans HV.out.2.1.size hK.size)))
        have HN := Lib.hid hN
        have HW := Lib.hid (And.intro hR2 (And.intro BN (hK.trans (kN.weaken (l' := [blk, rb]) (by intro z hz; simp at hz; subst hz; exact .inl (by simp))))))
        clear hN kN BN hW2 hR2 hIn hB hK hO hX ht
        by_cases hLO : L ≤ O
        · have dL : decide ((L : Int) ≤ (O : Int)) = true := by rw [decide_eq_true_eq]; omega
          have dLN : decide (L ≤ O) = true := by rw [decide_eq_true_eq]; omega
          obtain ⟨P, hP⟩ : ∃ P : Nat, O - L = P := ⟨_, rfl⟩
          obtain ⟨Q, hQ⟩ : ∃ Q : Nat, a + P = Q := ⟨_, rfl⟩
          have wP : IntKind.i64.wrap ((O : Int) - (L : Int)) = (P : Int) := by have := HBD.out; rw [IntKind.wrap_i64]; omega
          have wQ : IntKind.i64.wrap ((a : Int) + (P : Int)) = (Q : Int) := by have := HBD.out; rw [IntKind.wrap_i64]; omega
          have hQb : a ≤ Q ∧ Q < b := by have := HBD.out; omega
          clear hP hQ
          obtain ⟨sx, sy, qd1, qg1, qd2, qg2, qj1, qj2, qd3, HS0⟩ := u32_swapF (X := i) (Y := Q) HW.out.1 hG.out.1 hib (by omega)
          go_wp2_with (go_at_call 127; refine HN.out.mono ?_; rintro _ w3 ⟨rfl, rfl⟩)
          go_region
          obtain ⟨w4, hww⟩ : ∃ W, ((World.setCell w3 ⟨blk, i, none⟩ (.int .u32 (sy : Nat))).setCell ⟨blk, Q, none⟩ (.int .u32 (sx : Nat))).drew = W := ⟨_, rfl⟩
          rw [hww]
          have h4 : U32 w4 blk (swp G i Q) := hww ▸ HS0.out.1
          have k4 : Kp [blk] w3 w4 := hww ▸ HS0.out.2
          clear hww qd1 qg1 qd2 qg2 qj1 qj2 qd3
          have kk := k4.weaken (l' := [blk, rb]) (by intro z hz; simp at hz; subst hz; exact .inl (by simp))
          have H4 := Lib.hid (And.intro h4 (And.intro ((HW.out.2.1).kp k4 (by simp; omega)) (HW.out.2.2.trans kk)))
          clear h4 k4 kk HN
          go_wp2_with fail
          go_roundw
          case rel => exact ⟨t + 1, X', swp G i Q, by omega, by congr 1; omega, ⟨H4.out.1, Lib.hid ⟨(swp_size _ _ _).trans hG.out.1, permIn_trans _ _ _ _ _ hG.out.2 (swp_permIn _ _ _ _ _ (by have := HBD.out; omega) (by have := HBD.out; omega) hQb.1 hQb.2 (by have := hG.out.1; omega))⟩⟩, ⟨H4.out.2.1, lX'⟩, H4.out.2.2⟩
          case measure => have := HBD.out; simp [intOf]; omega
        · have dL : decide ((L : Int) ≤ (O : Int)) = false := by rw [decide_eq_false_iff_not]; omega
          have dLN : decide (L ≤ O) = false := by rw [decide_eq_false_iff_not]; omega
          obtain ⟨Q, hQ⟩ : ∃ Q : Nat, a + O = Q := ⟨_, rfl⟩
          have wQ : IntKind.i64.wrap ((a : Int) + (O : Int)) = (Q : Int) := by have := HBD.out; rw [IntKind.wrap_i64]; omega
          have hQb : a ≤ Q ∧ Q < b := by have := HBD.out; omega
          clear hQ
          obtain ⟨sx, sy, qd1, qg1, qd2, qg2, qj1, qj2, qd3, HS0⟩ := u32_swapF (X := i) (Y := Q) HW.out.1 hG.out.1 hib (by omega)
          go_wp2_with (go_at_call 127; refine HN.out.mono ?_; rintro _ w3 ⟨rfl, rfl⟩)
          go_region
          obtain ⟨w4, hww⟩ : ∃ W, ((World.setCell w3 ⟨blk, i, none⟩ (.int .u32 (sy : Nat))).setCell ⟨blk, Q, none⟩ (.int .u32 (sx : Nat))).drew = W := ⟨_, rfl⟩
          rw [hww]
          have h4 : U32 w4 blk (swp G i Q) := hww ▸ HS0.out.1
          have k4 : Kp [blk] w3 w4 := hww ▸ HS0.out.2
          clear hww qd1 qg1 qd2 qg2 qj1 qj2 qd3
          have kk := k4.weaken (l' := [blk, rb]) (by intro z hz; simp at hz; subst hz; exact .inl (by simp))
          have H4 := Lib.hid (And.intro h4 (And.intro ((HW.out.2.1).kp k4 (by simp; omega)) (HW.out.2.2.trans kk)))
          clear h4 k4 kk HN
          go_wp2_with fail
          go_roundw
          case rel => exact ⟨t + 1, X', swp G i Q, by omega, by congr 1; omega, ⟨H4.out.1, Lib.hid ⟨(swp_size _ _ _).trans hG.out.1, permIn_trans _ _ _ _ _ hG.out.2 (swp_permIn _ _ _ _ _ (by have := HBD.out; omega) (by have := HBD.out; omega) hQb.1 hQb.2 (by have := hG.out.1; omega))⟩⟩, ⟨H4.out.2.1, lX'⟩, H4.out.2.2⟩
          case measure => have := HBD.out; simp [intOf]; omega
      · have hle : decide ((i : Int) ≤ (e0 : Int)) = false := by have := HBD.out; rw [decide_eq_false_iff_not]; omega
        have hleN : decide (i ≤ e0) = false := by have := HBD.out; rw [decide_eq_false_iff_not]; omega
        have HX := Lib.hid (And.intro hIn (And.intro hB hK))
        clear hIn hB hK
        go_wp2_with fail
        go_end0
        exact ⟨rfl, ⟨G, HX.out.1, hG.out.2⟩, (Kp.of_below HV.out.2.1 [blk]).step HX.out.2.2 (by intro z hz; simp at hz; rcases hz with rfl | rfl; exact .inl (by simp); exact .inr (by have := HV.out.2.2; omega))⟩
  · have d8 : decide ((8 : Int) ≤ (L : Int)) = false := by rw [decide_eq_false_iff_not]; omega
    have HX := Lib.hid h
    clear h
    go_enter Tryz.func212, Tryz.ntmps212
    go_wp2_with fail
    go_end0
    exact ⟨rfl, ⟨D, HX.out, permIn_refl _ _ _⟩, Kp.refl _ _⟩
end Go.Proofs.YtcljffldbnoljaaGreatDoor
