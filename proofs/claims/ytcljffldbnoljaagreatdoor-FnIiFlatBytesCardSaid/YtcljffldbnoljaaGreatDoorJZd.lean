/-
  slices.partitionEqual over a row of uint64: what it leaves of the row. Conditions: as each contract says.
  slices.order2, median, medianAdjacent, choosePivot, reverseRange over a row of uint64: what they answer and what they leave of the row. Conditions: as each contract says.
-/
import Derived.Test.YtcljffldbnoljaaGreatDoorJZa
import Derived.Test.YtcljffldbnoljaaGreatDoorJVb
import Derived.Test.YtcljffldbnoljaaGreatDoorJVe
namespace Go.Proofs.YtcljffldbnoljaaGreatDoor
open Go.RowKit Go.Sort

set_option maxRecDepth 100000 in
set_option maxHeartbeats 4000000 in
theorem partitionEqual_u64 (blk cp n : Nat) (_hnc : n ≤ cp) (a b pivot : Nat) (hap : a ≤ pivot) (hpb : pivot < b) (hb : b ≤ n) (hn : n ≤ 1000) (w : World) (D : Array Nat) (h : U64 w blk D) (hD : D.size = n) :
    Calls Tryz.prog 200 #[.slice (some ⟨blk, 0, none⟩) n cp, .int .i64 a, .int .i64 b, .int .i64 pivot] w (fun e w' => (∃ (m : Nat) (G : Array Nat), e = .returned (.int .i64 m) ∧ U64 w' blk G ∧ PartQ ltN a b (swp D a pivot) m G) ∧ Kp [blk] w w') := by
  have HI := Lib.hid (And.intro h trivial)
  clear h
  obtain ⟨J, hJ⟩ : ∃ J : Nat, b - 1 = J := ⟨_, rfl⟩
  obtain ⟨a1, ha1⟩ : ∃ a1 : Nat, a + 1 = a1 := ⟨_, rfl⟩
  have hw1 : IntKind.i64.wrap ((b : Int) - 1) = (J : Int) := by rw [IntKind.wrap_i64]; omega
  have hw2 : IntKind.i64.wrap ((a : Int) + 1) = (a1 : Int) := by rw [IntKind.wrap_i64]; omega
  have hbd : a < n ∧ J < n ∧ J < b ∧ b ≤ J + 1 ∧ a < a1 ∧ a1 ≤ a + 1 ∧ a1 ≤ J + 1 ∧ pivot < n := by omega
  obtain ⟨D1, hD1⟩ : ∃ D1, swp D a pivot = D1 := ⟨_, rfl⟩
  have hP1 : Hid (D1.size = n ∧ QI ltN a b D1 a1 J D1) := Lib.hid (by rw [← hD1, ← hJ, ← ha1]; exact ⟨(swp_size _ _ _).trans hD, qi_start⟩)
  have HD := Lib.hid (And.intro hD hD1)
  clear hJ ha1 hD hD1
  obtain ⟨sx, sy, qd1, qg1, qd2, qg2, qj1, qj2, qd3, HS0⟩ := u64_swapF (X := a) (Y := pivot) HI.out.1 HD.out.1 hbd.1 hbd.2.2.2.2.2.2.2
  go_enter Tryz.func200, Tryz.ntmps200
  go_wp2_with fail
  go_region
  obtain ⟨w2, hww⟩ : ∃ W, ((World.setCell w ⟨blk, a, none⟩ (.int .u64 (sy : Nat))).setCell ⟨blk, pivot, none⟩ (.int .u64 (sx : Nat))).drew = W := ⟨_, rfl⟩
  rw [hww]
  have h2 : U64 w2 blk (swp D a pivot) := hww ▸ HS0.out.1
  have k2 : Kp [blk] w w2 := hww ▸ HS0.out.2
  clear hww qd1 qg1 qd2 qg2 qj1 qj2 qd3
  rw [HD.out.2] at h2
  have H2 := Lib.hid (And.intro h2 k2)
  clear h2 k2
  go_wp2_with fail
  go_loopw [9, 10] (fun x y wr => ∃ (i j : Nat) (G : Array Nat), a < i ∧ i ≤ j + 1 ∧ j ≤ J ∧ x = .int .i64 i ∧ y = .int .i64 j ∧ (U64 wr blk G ∧ Hid (G.size = n ∧ QI ltN a b D1 i j G)) ∧ Kp [blk] w wr) (fun x y _ => (intOf y + 1 - intOf x).toNat)
  case atStart => exact ⟨a1, J, D1, by omega, by omega, by omega, rfl, rfl, ⟨H2.out.1, hP1⟩, H2.out.2⟩
  case round =>
    obtain ⟨i0, j0, G, hai0, hij0, hjJ0, rfl, rfl, ⟨hIn, hG⟩, hK⟩ := hrel
    have HO := Lib.hid (And.intro hIn hK)
    clear hIn hK
    go_wp2_with fail
    go_loopw [9] (fun x wr => ∃ i : Nat, i0 ≤ i ∧ i ≤ j0 + 1 ∧ x = .int .i64 i ∧ (U64 wr blk G ∧ Hid (G.size = n ∧ QI ltN a b D1 i j0 G)) ∧ Kp [blk] w wr) (fun x _ => j0 + 1 - (intOf x).toNat)
    case atStart => exact ⟨i0, Nat.le_refl _, by omega, rfl, ⟨HO.out.1, hG⟩, HO.out.2⟩
    case round =>
      obtain ⟨i, hai, hij, rfl, ⟨hIn, hG⟩, hK⟩ := hrel
      have hwi : IntKind.i64.wrap ((i : Int) + 1) = (i : Int) + 1 := by rw [IntKind.wrap_i64]; omega
      by_cases hle : i ≤ j0
      · have hdd : decide ((i : Int) ≤ (j0 : Int)) = true := by rw [decide_eq_true_eq]; omega
        obtain ⟨vx, vy, bb0, qc1, qf1, qc2, qf2, qi1, qi2, hcl0, HB0⟩ := u64_less (X := a) (Y := i) hIn hG.out.1 (by omega) (by omega)
        have HCl := Lib.hid hcl0
        have HR0 := Lib.hid hIn
        clear hcl0
        have HK := Lib.hid hK
        clear hIn hK
        go_wp2_with fail
        go_quiet (first | (go_at_call 199; exact Calls.quiet_of_same (HCl.out _)))
        obtain ⟨w3, hww⟩ : ∃ W, World.drewN wr nq = W := ⟨_, rfl⟩
        rw [hww]
        have hI3 : U64 w3 blk G := hww ▸ u64_drewN HR0.out
        have b3 : RowKit.Below (World.heap wr).size wr w3 := hww ▸ below_drewN (RowKit.Below.refl _ _) _
        clear hww qc1 qf1 qc2 qf2 qi1 qi2
        have HY := Lib.hid (And.intro hI3 (HK.out.old b3))
        obtain ⟨bb, hbb⟩ : ∃ B, bb0 = B := ⟨_, rfl⟩
        rw [hbb]
        have HB := Lib.hid (HB0.out.trans hbb)
        clear hI3 b3 hbb HK
        cases bb
        · go_wp2_with fail
          go_roundw
          case rel => exact ⟨i + 1, by omega, by omega, by go_num, ⟨HY.out.1, Lib.hid ⟨hG.out.1, qi_up hG.out.2 HB.out⟩⟩, HY.out.2⟩
          case measure => simp [intOf]; omega
        · go_wp2_with fail
          go_loopw [10] (fun x wr => ∃ j : Nat, j ≤ j0 ∧ i ≤ j + 1 ∧ x = .int .i64 j ∧ (U64 wr blk G ∧ Hid (G.size = n ∧ QI ltN a b D1 i j G)) ∧ Kp [blk] w wr) (fun x _ => (intOf x).toNat)
          case atStart => exact ⟨j0, Nat.le_refl _, by omega, rfl, ⟨HY.out.1, hG⟩, HY.out.2⟩
          case round =>
            obtain ⟨j, hjJ, hij2, rfl, ⟨hIn, hG⟩, hK⟩ := hrel
            have hwj : IntKind.i64.wrap ((j : Int) - 1) = (j : Int) - 1 := by rw [IntKind.wrap_i64]; omega
            by_cases hle2 : i ≤ j
            · have hdd : decide ((i : Int) ≤ (j : Int)) = true := by rw [decide_eq_true_eq]; omega
              obtain ⟨vx, vy, bb0, qc1, qf1, qc2, qf2, qi1, qi2, hcl0, HB0⟩ := u64_less (X := a) (Y := j) hIn hG.out.1 (by omega) (by omega)
              have HCl := Lib.hid hcl0
              have HR0 := Lib.hid hIn
              clear hcl0
              have HK := Lib.hid hK
              clear hIn hK
              go_wp2_with fail
              go_quiet (first | (go_at_call 199; exact Calls.quiet_of_same (HCl.out _)))
              obtain ⟨w3, hww⟩ : ∃ W, World.drewN wr nq = W := ⟨_, rfl⟩
              rw [hww]
              have hI3 : U64 w3 blk G := hww ▸ u64_drewN HR0.out
              have b3 : RowKit.Below (World.heap wr).size wr w3 := hww ▸ below_drewN (RowKit.Below.refl _ _) _
              clear hww qc1 qf1 qc2 qf2 qi1 qi2
              have HY := Lib.hid (And.intro hI3 (HK.out.old b3))
              obtain ⟨bb, hbb⟩ : ∃ B, bb0 = B := ⟨_, rfl⟩
              rw [hbb]
              have HB2 := Lib.hid (HB0.out.trans hbb)
              clear hI3 b3 hbb HK
              cases bb
              · have hgt : decide ((j : Int) < (i : Int)) = false := by rw [decide_eq_false_iff_not]; omega
                have hne : i ≠ j := by
                  intro e
                  have e1 := HB.out
                  rw [e, HB2.out] at e1
                  cases e1
                obtain ⟨sx, sy, qd1, qg1, qd2, qg2, qj1, qj2, qd3, HS0⟩ := u64_swapF (X := i) (Y := j) HY.out.1 hG.out.1 (by omega) (by omega)
                have HF := Lib.hid HY.out.2
                go_wp2_with fail
                go_region
                obtain ⟨w6, hww⟩ : ∃ W, ((World.setCell w3 ⟨blk, i, none⟩ (.int .u64 (sy : Nat))).setCell ⟨blk, j, none⟩ (.int .u64 (sx : Nat))).drew = W := ⟨_, rfl⟩
                rw [hww]
                have h6 : U64 w6 blk (swp G i j) := hww ▸ HS0.out.1
                have k6 : Kp [blk] w3 w6 := hww ▸ HS0.out.2
                clear hww qd1 qg1 qd2 qg2 qj1 qj2 qd3
                have H6 := Lib.hid (And.intro h6 (HF.out.trans k6))
                clear h6 k6
                go_wp2_with fail
                go_roundw
                case rel => exact ⟨i + 1, j - 1, swp G i j, by omega, by omega, by omega, by go_num, by congr 1; omega, ⟨H6.out.1, Lib.hid ⟨(swp_size _ _ _).trans hG.out.1, qi_swap hG.out.2 (by omega) (by omega) (by omega) (by have := hP1.out.1; omega) HB.out HB2.out⟩⟩, H6.out.2⟩
                case measure => simp [intOf]; omega
              · go_wp2_with fail
                go_roundw
                case rel => exact ⟨j - 1, by omega, by omega, by congr 1; omega, ⟨HY.out.1, Lib.hid ⟨hG.out.1, qi_down hG.out.2 HB2.out⟩⟩, HY.out.2⟩
                case measure => simp [intOf]; omega
            · have hdd : decide ((i : Int) ≤ (j : Int)) = false := by rw [decide_eq_false_iff_not]; omega
              have hgt : decide ((j : Int) < (i : Int)) = true := by rw [decide_eq_true_eq]; omega
              have H60 := Lib.hid (And.intro hIn hK)
              clear hIn hK
              go_wp2_with fail
              go_quiet (fail)
              obtain ⟨wq, hwq⟩ : ∃ W, World.drewN wr nq = W := ⟨_, rfl⟩
              rw [hwq]
              have H6 := Lib.hid (And.intro (u64_q H60.out.1 hwq) (kp_q H60.out.2 hwq))
              clear hwq
              go_wp2_with fail
              refine bodyPost_ret (v := .int .i64 i) (by simp [results, Tryz.results200, go_sem]) rfl ⟨⟨_, _, rfl, H6.out.1, ?_⟩, H6.out.2⟩
              rw [HD.out.2]
              exact qi_end ltN_swo hG.out.2 (by omega) (by omega) (by omega)
      · have hdd : decide ((i : Int) ≤ (j0 : Int)) = false := by rw [decide_eq_false_iff_not]; omega
        have HE0 := Lib.hid (And.intro hIn hK)
        clear hIn hK
        go_wp2_with fail
        go_quiet (fail)
        obtain ⟨wq, hwq⟩ : ∃ W, World.drewN wr nq = W := ⟨_, rfl⟩
        rw [hwq]
        have HE := Lib.hid (And.intro (u64_q HE0.out.1 hwq) (kp_q HE0.out.2 hwq))
        clear hwq
        go_wp2_with fail
        clear hdd
        go_loopw [10] (fun x wr => ∃ j : Nat, j ≤ j0 ∧ i ≤ j + 1 ∧ x = .int .i64 j ∧ (U64 wr blk G ∧ Hid (G.size = n ∧ QI ltN a b D1 i j G)) ∧ Kp [blk] w wr) (fun x _ => (intOf x).toNat)
        case atStart => exact ⟨j0, Nat.le_refl _, by omega, rfl, ⟨HE.out.1, hG⟩, HE.out.2⟩
        case round =>
          obtain ⟨j, hjJ, hij2, rfl, ⟨hIn, hG⟩, hK⟩ := hrel
          have hwj : IntKind.i64.wrap ((j : Int) - 1) = (j : Int) - 1 := by rw [IntKind.wrap_i64]; omega
          by_cases hle2 : i ≤ j
          · exfalso; omega
          · have hdd : decide ((i : Int) ≤ (j : Int)) = false := by rw [decide_eq_false_iff_not]; omega
            have hgt : decide ((j : Int) < (i : Int)) = true := by rw [decide_eq_true_eq]; omega
            have H60 := Lib.hid (And.intro hIn hK)
            clear hIn hK
            go_wp2_with fail
            go_quiet (fail)
            obtain ⟨wq, hwq⟩ : ∃ W, World.drewN wr nq = W := ⟨_, rfl⟩
            rw [hwq]
            have H6 := Lib.hid (And.intro (u64_q H60.out.1 hwq) (kp_q H60.out.2 hwq))
            clear hwq
            go_wp2_with fail
            refine bodyPost_ret (v := .int .i64 i) (by simp [results, Tryz.results200, go_sem]) rfl ⟨⟨_, _, rfl, H6.out.1, ?_⟩, H6.out.2⟩
            rw [HD.out.2]
            exact qi_end ltN_swo hG.out.2 (by omega) (by omega) (by omega)
end Go.Proofs.YtcljffldbnoljaaGreatDoor

namespace Go.Proofs.YtcljffldbnoljaaGreatDoor
open Go.RowKit Go.Sort

def O2PostV (blk : Nat) (D : Array Nat) (a b sb m : Nat) (w : World) (e : Ending) (w' : World) : Prop :=
  (∃ x y : Nat, ((x = a ∧ y = b) ∨ (x = b ∧ y = a)) ∧ e = .returned (.tuple #[.int .i64 (x : Nat), .int .i64 (y : Nat)])) ∧ (U64 w' blk D ∧ Sw w' sb (m + 1)) ∧ Kp [sb] w w'

set_option maxRecDepth 100000 in
set_option maxHeartbeats 2000000 in
theorem order2_u64 (B blk cp n : Nat) (hBb : blk < B) (_hnc : n ≤ cp) (a b sb m : Nat) (ha : a < n) (hb : b < n) (hm : m ≤ 1000) (hsb : B ≤ sb) (w : World) (hBw : B ≤ w.heap.size) (D : Array Nat) (h : U64 w blk D) (hD : D.size = n) (hs : Sw w sb m) :
    Calls Tryz.prog 220 #[.slice (some ⟨blk, 0, none⟩) n cp, .int .i64 a, .int .i64 b, .pointer (some ⟨sb, 0, none⟩)] w (O2PostV blk D a b sb m w) := by
  obtain ⟨vx, vy, bb0, qc1, qf1, qc2, qf2, qi1, qi2, hcl0, HB0⟩ := u64_less (X := b) (Y := a) h hD hb ha
  have HCl := Lib.hid hcl0
  have HR0 := Lib.hid h
  clear hcl0
  have HI := Lib.hid (And.intro trivial hs)
  clear h
  go_enter Tryz.func220, Tryz.ntmps220
  go_wp2_with fail
  go_quiet (first | (go_at_call 199; exact Calls.quiet_of_same (HCl.out _)))
  obtain ⟨w3, hww⟩ : ∃ W, World.drewN w nq = W := ⟨_, rfl⟩
  rw [hww]
  have hI3 : U64 w3 blk D := hww ▸ u64_drewN HR0.out
  have b3 : RowKit.Below (World.heap w).size w w3 := hww ▸ below_drewN (RowKit.Below.refl _ _) _
  clear hww qc1 qf1 qc2 qf2 qi1 qi2
  obtain ⟨s, hs1, B1⟩ := HI.out.2.old b3
  have c1 : w3.cell? ⟨sb, 0, none⟩ = some (.int .i64 (s : Nat)) := B1.cell 0
  have f1 := B1.frozen 0
  have hws : IntKind.i64.wrap ((s : Int) + 1) = (s : Int) + 1 := by rw [IntKind.wrap_i64]; omega
  have HY := Lib.hid (And.intro hI3 (And.intro b3 B1))
  obtain ⟨bb, hbb⟩ : ∃ B, bb0 = B := ⟨_, rfl⟩
  rw [hbb]
  clear hI3 b3 B1 hbb
  cases bb
  · go_wp2_with fail
    refine bodyPost_ret (v := .tuple #[.int .i64 a, .int .i64 b]) (by simp [results, Tryz.results220, go_sem]) rfl ⟨⟨a, b, .inl ⟨rfl, rfl⟩, rfl⟩, ⟨HY.out.1, s, by omega, HY.out.2.2⟩, Kp.of_below HY.out.2.1 _⟩
  · go_wp2_with fail
    have hk : Kp [sb] w3 (w3.setCell ⟨sb, 0, none⟩ (.int .i64 ((s : Int) + 1))) := (Kp.refl [sb] w3).setCell (p := ⟨sb, 0, none⟩) (.inl (by simp)) _
    refine bodyPost_ret (v := .tuple #[.int .i64 b, .int .i64 a]) (by simp [results, Tryz.results220, go_sem]) rfl ⟨⟨b, a, .inr ⟨rfl, rfl⟩, rfl⟩, ⟨u64_below hBb HY.out.1 (kp_low hk hsb (Nat.le_trans hBw HY.out.2.1.size)), s + 1, by omega, ?_⟩, (Kp.of_below HY.out.2.1 _).trans hk⟩
    have := HY.out.2.2.set_ 0 (.int .i64 ((s : Int) + 1))
    simpa using this

def MePostV (blk : Nat) (D : Array Nat) (a b c sb m : Nat) (w : World) (e : Ending) (w' : World) : Prop :=
  (∃ x : Nat, (x = a ∨ x = b ∨ x = c) ∧ e = .returned (.int .i64 (x : Nat))) ∧ (U64 w' blk D ∧ Sw w' sb (m + 3)) ∧ Kp [sb] w w'

set_option maxRecDepth 100000 in
set_option maxHeartbeats 2000000 in
theorem median_u64 (B blk cp n : Nat) (hBb : blk < B) (hnc : n ≤ cp) (a b c sb m : Nat) (ha : a < n) (hb : b < n) (hc : c < n) (hm : m ≤ 100) (hsb : B ≤ sb) (w : World) (hBw : B ≤ w.heap.size) (D : Array Nat) (h : U64 w blk D) (hD : D.size = n) (hs : Sw w sb m) :
    Calls Tryz.prog 208 #[.slice (some ⟨blk, 0, none⟩) n cp, .int .i64 a, .int .i64 b, .int .i64 c, .pointer (some ⟨sb, 0, none⟩)] w (MePostV blk D a b c sb m w) := by
  have H := Lib.hid (fun (x y k : Nat) (hx : x < n) (hy : y < n) (hk : k ≤ 1000) (W : World) (hW : B ≤ W.heap.size) (h : U64 W blk D) (hs : Sw W sb k) => order2_u64 B blk cp n hBb hnc x y sb k hx hy hk hsb W hW D h hD hs)
  have H1 := Lib.hid (H.out a b m ha hb (by omega) w hBw h hs)
  clear h
  go_enter Tryz.func208, Tryz.ntmps208
  go_wp2_with fail
  refine H1.out.mono ?_
  rintro e w1 ⟨⟨x1, y1, hxy1, rfl⟩, hR1, k1⟩
  have H2 := Lib.hid (H.out y1 c (m + 1) (by omega) hc (by omega) w1 (Nat.le_trans hBw k1.size) hR1.1 hR1.2)
  have K1 := Lib.hid (And.intro k1 hxy1)
  have hx1 : x1 < n := by omega
  clear hR1 k1 hxy1 H1
  go_wp2_with fail
  refine H2.out.mono ?_
  rintro e w2 ⟨⟨x2, y2, hxy2, rfl⟩, hR2, k2⟩
  have H3 := Lib.hid (H.out x1 x2 (m + 1 + 1) hx1 (by have := K1.out.2; omega) (by omega) w2 (Nat.le_trans hBw (Nat.le_trans K1.out.1.size k2.size)) hR2.1 hR2.2)
  have K2 := Lib.hid (And.intro (K1.out.1.trans k2) hxy2)
  clear hR2 k2 hxy2 H2
  go_wp2_with fail
  refine H3.out.mono ?_
  rintro e w3 ⟨⟨x3, y3, hxy3, rfl⟩, hR3, k3⟩
  have K3 := Lib.hid (And.intro (K2.out.1.trans k3) (And.intro hxy3 hR3))
  clear hR3 k3 hxy3 H3
  go_wp2_with fail
  refine bodyPost_ret (v := .int .i64 y3) (by simp [results, Tryz.results208, go_sem]) rfl ⟨⟨y3, ?_, rfl⟩, K3.out.2.2, K3.out.1⟩
  have q1 := K1.out.2
  have q2 := K2.out.2
  have q3 := K3.out.2.1
  rcases q1 with ⟨rfl, rfl⟩ | ⟨rfl, rfl⟩ <;> rcases q2 with ⟨rfl, rfl⟩ | ⟨rfl, rfl⟩ <;> rcases q3 with ⟨rfl, rfl⟩ | ⟨rfl, rfl⟩ <;> simp

set_option maxRecDepth 100000 in
set_option maxHeartbeats 2000000 in
theorem medianAdjacent_u64 (B blk cp n : Nat) (hBb : blk < B) (hnc : n ≤ cp) (a sb m : Nat) (ha0 : 0 < a) (ha : a + 1 < n) (hn : n ≤ 1000) (hm : m ≤ 100) (hsb : B ≤ sb) (w : World) (hBw : B ≤ w.heap.size) (D : Array Nat) (h : U64 w blk D) (hD : D.size = n) (hs : Sw w sb m) :
    Calls Tryz.prog 207 #[.slice (some ⟨blk, 0, none⟩) n cp, .int .i64 a, .pointer (some ⟨sb, 0, none⟩)] w (MePostV blk D (a - 1) a (a + 1) sb m w) := by
  have H := Lib.hid (median_u64 B blk cp n hBb hnc (a - 1) a (a + 1) sb m (by omega) (by omega) ha hm hsb w hBw D h hD hs)
  have hw1 : IntKind.i64.wrap ((a : Int) - 1) = ((a - 1 : Nat) : Int) := by rw [IntKind.wrap_i64]; omega
  have hw2 : IntKind.i64.wrap ((a : Int) + 1) = ((a + 1 : Nat) : Int) := by rw [IntKind.wrap_i64]; omega
  obtain ⟨a1, ha1⟩ : ∃ a1, a - 1 = a1 := ⟨_, rfl⟩
  obtain ⟨a2, ha2⟩ : ∃ a2, a + 1 = a2 := ⟨_, rfl⟩
  rw [ha1] at hw1 H
  rw [ha2] at hw2 H
  rw [ha1, ha2]
  clear h ha1 ha2
  go_enter Tryz.func207, Tryz.ntmps207
  go_wp2_with fail
  refine H.out.mono ?_
  rintro e w1 ⟨⟨x1, hx1, rfl⟩, hR1, k1⟩
  have K1 := Lib.hid (And.intro k1 (And.intro hx1 hR1))
  clear hR1 k1 hx1
  go_wp2_with fail
  exact bodyPost_ret (v := .int .i64 x1) (by simp [results, Tryz.results207, go_sem]) rfl ⟨⟨x1, K1.out.2.1, rfl⟩, K1.out.2.2, K1.out.1⟩

set_option maxRecDepth 100000 in
set_option maxHeartbeats 2000000 in
theorem reverseRange_u64 (blk cp n : Nat) (_hnc : n ≤ cp) (a b : Nat) (hab : a < b) (hb : b ≤ n) (hn : n ≤ 1000) (w : World) (D : Array Nat) (h : U64 w blk D) (hD : D.size = n) :
    Calls Tryz.prog 197 #[.slice (some ⟨blk, 0, none⟩) n cp, .int .i64 a, .int .i64 b] w fun e w' => e = .returned (.tuple #[]) ∧ (∃ D', U64 w' blk D' ∧ PermIn a b D D') ∧ Kp [blk] w w' := by
  have HI := Lib.hid (And.intro h trivial)
  clear h
  obtain ⟨J, hJ⟩ : ∃ J : Nat, b - 1 = J := ⟨_, rfl⟩
  have hw1 : IntKind.i64.wrap ((b : Int) - 1) = (J : Int) := by rw [IntKind.wrap_i64]; omega
  have hJb : J < b ∧ J < n ∧ a ≤ J := by omega
  clear hJ
  go_enter Tryz.func197, Tryz.ntmps197
  go_wp2_with fail
  go_loopw [6, 7] (fun x y wr => ∃ (i j : Nat) (G : Array Nat), a ≤ i ∧ i ≤ j + 1 ∧ j ≤ J ∧ x = .int .i64 i ∧ y = .int .i64 j ∧ (U64 wr blk G ∧ Hid (PermIn a b D G)) ∧ Kp [blk] w wr) (fun x y _ => (intOf y + 1 - intOf x).toNat)
  case atStart => exact ⟨a, J, D, Nat.le_refl _, by omega, Nat.le_refl _, rfl, rfl, ⟨HI.out.1, Lib.hid (permIn_refl _ _ _)⟩, Kp.refl _ _⟩
  case round =>
    obtain ⟨i, j, G, hai, hij, hjJ, rfl, rfl, ⟨hIn, hG⟩, hK⟩ := hrel
    by_cases hlt : i < j
    · have hdd : decide ((i : Int) < (j : Int)) = true := by rw [decide_eq_true_eq]; omega
      have hwi : IntKind.i64.wrap ((i : Int) + 1) = (i : Int) + 1 := by rw [IntKind.wrap_i64]; omega
      have hwj : IntKind.i64.wrap ((j : Int) - 1) = (j : Int) - 1 := by rw [IntKind.wrap_i64]; omega
      obtain ⟨sx, sy, qd1, qg1, qd2, qg2, qj1, qj2, qd3, HS0⟩ := u64_swapF (X := i) (Y := j) hIn (hG.out.1.trans hD) (by omega) (by omega)
      have HK := Lib.hid hK
      clear hIn hK
      go_wp2_with fail
      go_region
      obtain ⟨w6, hww⟩ : ∃ W, ((World.setCell wr ⟨blk, i, none⟩ (.int .u64 (sy : Nat))).setCell ⟨blk, j, none⟩ (.int .u64 (sx : Nat))).drew = W := ⟨_, rfl⟩
      rw [hww]
      have h6 : U64 w6 blk (swp G i j) := hww ▸ HS0.out.1
      have k6 : Kp [blk] wr w6 := hww ▸ HS0.out.2
      clear hww qd1 qg1 qd2 qg2 qj1 qj2 qd3
      have H6 := Lib.hid (And.intro h6 (HK.out.trans k6))
      clear h6 k6 HK
      go_wp2_with fail
      go_roundw
      case rel => exact ⟨i + 1, j - 1, swp G i j, by omega, by omega, by omega, by go_num, by congr 1; omega, ⟨H6.out.1, Lib.hid (permIn_trans _ _ _ _ _ hG.out (swp_permIn _ _ _ _ _ (by omega) (by omega) (by omega) (by omega) (by have := hG.out.1; omega)))⟩, H6.out.2⟩
      case measure => simp [intOf]; omega
    · have hdd : decide ((i : Int) < (j : Int)) = false := by rw [decide_eq_false_iff_not]; omega
      have HX := Lib.hid (And.intro hIn hK)
      clear hIn hK
      go_wp2_with fail
      go_end0
      exact ⟨rfl, ⟨G, HX.out.1, hG.out⟩, HX.out.2⟩
end Go.Proofs.YtcljffldbnoljaaGreatDoor
