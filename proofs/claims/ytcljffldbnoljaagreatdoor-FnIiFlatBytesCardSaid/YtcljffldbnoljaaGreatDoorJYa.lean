/-
  slices.insertionSort over a row of uint32: the very row that it leaves. Conditions: as each contract says.
  slices.siftDown, sort.heapSort over a row of uint32: the very row that they leave. Conditions: as each contract says.
-/
import Derived.Test.YtcljffldbnoljaaGreatDoorJQu
import Derived.Test.YtcljffldbnoljaaGreatDoorJVb
namespace Go.Proofs.YtcljffldbnoljaaGreatDoor
open Go.RowKit Go.Sort

set_option maxRecDepth 100000 in
set_option maxHeartbeats 2000000 in
theorem insertionSort_u32 (blk cp n : Nat) (_hnc : n ≤ cp) (a b : Nat) (hab : a ≤ b) (hb : b ≤ n) (hn : n ≤ 1000) (w : World) (D : Array Nat) (h : U32 w blk D) (hD : D.size = n) :
    Calls Tryz.prog 210 #[.slice (some ⟨blk, 0, none⟩) n cp, .int .i64 a, .int .i64 b] w fun e w' => e = .returned (.tuple #[]) ∧ U32 w' blk (insertionSort ltN D a b) ∧ Kp [blk] w w' := by
  have HI := Lib.hid (And.intro h trivial)
  clear h
  have hw1 : IntKind.i64.wrap ((a : Int) + 1) = (a : Int) + 1 := by rw [IntKind.wrap_i64]; omega
  go_enter Tryz.func210, Tryz.ntmps210
  go_wp2_with fail
  go_loopw [6] (fun x wr => ∃ i : Nat, a < i ∧ i ≤ b + 1 ∧ x = .int .i64 i ∧ (∃ E, U32 wr blk E ∧ Hid (E.size = n ∧ insOuter ltN a b i E = insertionSort ltN D a b)) ∧ Kp [blk] w wr) (fun x _ => b + 1 - (intOf x).toNat)
  case atStart => exact ⟨a + 1, by omega, by omega, by go_num, ⟨D, HI.out.1, Lib.hid ⟨hD, rfl⟩⟩, Kp.refl _ _⟩
  case round =>
    obtain ⟨i, hai, hib, rfl, ⟨E, hIn, hE⟩, hK⟩ := hrel
    have hwi : IntKind.i64.wrap ((i : Int) + 1) = (i : Int) + 1 := by rw [IntKind.wrap_i64]; omega
    by_cases hlt : i < b
    · have hdd : decide ((i : Int) < (b : Int)) = true := by rw [decide_eq_true_eq]; omega
      have HX := Lib.hid (And.intro hIn hK)
      clear hIn hK
      go_wp2_with fail
      go_loopw [7] (fun y wr => ∃ j : Nat, a ≤ j ∧ j ≤ i ∧ y = .int .i64 j ∧ (∃ G, U32 wr blk G ∧ Hid (G.size = n ∧ insInner ltN a j G = insInner ltN a i E)) ∧ Kp [blk] w wr) (fun y _ => (intOf y).toNat)
      case atStart => exact ⟨i, by omega, Nat.le_refl _, rfl, ⟨E, HX.out.1, Lib.hid ⟨hE.out.1, rfl⟩⟩, HX.out.2⟩
      case round =>
        obtain ⟨j, haj, hji, rfl, ⟨G, hIn, hG⟩, hK⟩ := hrel
        have HO := Lib.hid (insOuter_step ltN a b i E hlt)
        by_cases hja : a < j
        · have hdj : decide ((a : Int) < (j : Int)) = true := by rw [decide_eq_true_eq]; omega
          obtain ⟨jm, hjm⟩ : ∃ jm : Nat, j - 1 = jm := ⟨_, rfl⟩
          have hwj : IntKind.i64.wrap ((j : Int) - 1) = (jm : Int) := by rw [IntKind.wrap_i64]; omega
          have hjb : j < n ∧ jm < n ∧ jm < j ∧ a ≤ jm := by omega
          have HJM := Lib.hid hjm
          clear hjm
          obtain ⟨vx, vy, bb0, qc1, qf1, qc2, qf2, qi1, qi2, hcl0, HB0⟩ := u32_less (X := j) (Y := jm) hIn hG.out.1 hjb.1 hjb.2.1
          have HCl := Lib.hid hcl0
          have HR0 := Lib.hid hIn
          clear hcl0
          have HK := Lib.hid hK
          clear hIn hK
          go_wp2_with fail
          go_quiet (first | (go_at_call 216; exact Calls.quiet_of_same (HCl.out _)))
          obtain ⟨w3, hww⟩ : ∃ W, World.drewN wr nq = W := ⟨_, rfl⟩
          rw [hww]
          have hI3 : U32 w3 blk G := hww ▸ u32_drewN HR0.out
          have b3 : RowKit.Below (World.heap wr).size wr w3 := hww ▸ below_drewN (RowKit.Below.refl _ _) _
          clear hww qc1 qf1 qc2 qf2 qi1 qi2
          have hK3 := HK.out.old b3
          obtain ⟨sx, sy, qd1, qg1, qd2, qg2, qj1, qj2, qd3, HS0⟩ := u32_swapF (X := j) (Y := jm) hI3 hG.out.1 hjb.1 hjb.2.1
          have HY := Lib.hid (And.intro hI3 hK3)
          clear hI3 b3 hK3
          obtain ⟨bb, hbb⟩ : ∃ B, bb0 = B := ⟨_, rfl⟩
          rw [hbb]
          have HB := Lib.hid (HB0.out.trans hbb)
          clear hbb
          cases bb
          · go_wp2_with fail
            go_roundw
            case rel =>
              refine ⟨i + 1, by omega, by omega, by go_num, ⟨G, HY.out.1, Lib.hid ⟨hG.out.1, ?_⟩⟩, HY.out.2⟩
              rw [← hE.out.2, HO.out, ← hG.out.2, insInner_end ltN a j G (fun _ => by rw [HJM.out]; exact HB.out)]
            case measure => simp [intOf]; omega
          · go_wp2_with fail
            go_region
            obtain ⟨w4, hww⟩ : ∃ W, ((World.setCell w3 ⟨blk, j, none⟩ (.int .u32 (sy : Nat))).setCell ⟨blk, jm, none⟩ (.int .u32 (sx : Nat))).drew = W := ⟨_, rfl⟩
            rw [hww]
            have hI4 : U32 w4 blk (swp G j jm) := hww ▸ HS0.out.1
            have k4 : Kp [blk] w3 w4 := hww ▸ HS0.out.2
            clear hww qd1 qg1 qd2 qg2 qj1 qj2 qd3
            have HZ := Lib.hid (And.intro hI4 (HY.out.2.trans k4))
            clear hI4 k4
            go_wp2_with fail
            go_roundw
            case rel =>
              refine ⟨jm, by omega, by omega, rfl, ⟨_, HZ.out.1, Lib.hid ⟨(swp_size _ _ _).trans hG.out.1, ?_⟩⟩, HZ.out.2⟩
              rw [← hG.out.2, insInner_step ltN a j G hja (by rw [HJM.out]; exact HB.out), HJM.out]
            case measure => simp [intOf]; omega
        · have hdj : decide ((a : Int) < (j : Int)) = false := by rw [decide_eq_false_iff_not]; omega
          have HY0 := Lib.hid (And.intro hIn hK)
          clear hIn hK
          go_wp2_with fail
          go_quiet (fail)
          obtain ⟨wq, hwq⟩ : ∃ W, World.drewN wr nq = W := ⟨_, rfl⟩
          rw [hwq]
          have HY := Lib.hid (And.intro (u32_q HY0.out.1 hwq) (kp_q HY0.out.2 hwq))
          clear hwq
          go_wp2_with fail
          go_roundw
          case rel =>
            refine ⟨i + 1, by omega, by omega, by go_num, ⟨G, HY.out.1, Lib.hid ⟨hG.out.1, ?_⟩⟩, HY.out.2⟩
            rw [← hE.out.2, HO.out, ← hG.out.2, insInner_end ltN a j G (fun hc => absurd hc hja)]
          case measure => simp [intOf]; omega
    · have hdd : decide ((i : Int) < (b : Int)) = false := by rw [decide_eq_false_iff_not]; omega
      have HX := Lib.hid (And.intro hIn hK)
      clear hIn hK
      go_wp2_with fail
      go_end0
      refine ⟨rfl, ?_, HX.out.2⟩
      rw [← hE.out.2, insOuter_end ltN a b i E hlt]
      exact HX.out.1
end Go.Proofs.YtcljffldbnoljaaGreatDoor

namespace Go.Proofs.YtcljffldbnoljaaGreatDoor
open Go.RowKit Go.Sort

set_option maxRecDepth 100000 in
set_option maxHeartbeats 2000000 in
theorem siftDown_u32 (blk cp n : Nat) (_hnc : n ≤ cp) (lo hi first : Nat) (hlo : lo ≤ n) (hhi : first + hi ≤ n) (hn : n ≤ 1000) (w : World) (D : Array Nat) (h : U32 w blk D) (hD : D.size = n) :
    Calls Tryz.prog 221 #[.slice (some ⟨blk, 0, none⟩) n cp, .int .i64 lo, .int .i64 hi, .int .i64 first] w fun e w' => e = .returned (.tuple #[]) ∧ (U32 w' blk (siftDown ltN hi first lo D) ∧ (siftDown ltN hi first lo D).size = n) ∧ Kp [blk] w w' := by
  have HI := Lib.hid (And.intro h trivial)
  clear h
  go_enter Tryz.func221, Tryz.ntmps221
  go_wp2_with fail
  go_loopw [8] (fun x wr => ∃ root : Nat, root ≤ n ∧ x = .int .i64 root ∧ (∃ G, U32 wr blk G ∧ Hid (G.size = n ∧ siftDown ltN hi first root G = siftDown ltN hi first lo D)) ∧ Kp [blk] w wr) (fun x _ => hi - (intOf x).toNat)
  case atStart => exact ⟨lo, hlo, rfl, ⟨D, HI.out.1, Lib.hid ⟨hD, rfl⟩⟩, Kp.refl _ _⟩
  case round =>
    obtain ⟨root, hrn, rfl, ⟨G, hIn, hG⟩, hK⟩ := hrel
    obtain ⟨c, hc⟩ : ∃ c : Nat, 2 * root + 1 = c := ⟨_, rfl⟩
    have hw1 : IntKind.i64.wrap (2 * (root : Int)) = 2 * (root : Int) := by rw [IntKind.wrap_i64]; omega
    have hw2 : IntKind.i64.wrap (2 * (root : Int) + 1) = (c : Int) := by rw [IntKind.wrap_i64]; omega
    have hcb : root < c ∧ c ≤ 2 * n + 1 := by omega
    have HC := Lib.hid hc
    clear hc
    by_cases hge : hi ≤ c
    · have hdd : decide ((hi : Int) ≤ (c : Int)) = true := by rw [decide_eq_true_eq]; omega
      have HX := Lib.hid (And.intro hIn hK)
      clear hIn hK
      go_wp2_with fail
      go_end0
      have e := siftDown_end ltN hi first root G (by rw [HC.out]; exact hge)
      rw [← hG.out.2, e]
      exact ⟨rfl, ⟨HX.out.1, hG.out.1⟩, HX.out.2⟩
    · have hdd : decide ((hi : Int) ≤ (c : Int)) = false := by rw [decide_eq_false_iff_not]; omega
      obtain ⟨c1, hc1⟩ : ∃ c1 : Nat, c + 1 = c1 := ⟨_, rfl⟩
      obtain ⟨fr, hfr⟩ : ∃ fr : Nat, first + root = fr := ⟨_, rfl⟩
      obtain ⟨fc, hfc⟩ : ∃ fc : Nat, first + c = fc := ⟨_, rfl⟩
      obtain ⟨fc1, hfc1⟩ : ∃ fc1 : Nat, fc + 1 = fc1 := ⟨_, rfl⟩
      have hw3 : IntKind.i64.wrap ((c : Int) + 1) = (c1 : Int) := by rw [IntKind.wrap_i64]; omega
      have hw4 : IntKind.i64.wrap ((first : Int) + (root : Int)) = (fr : Int) := by rw [IntKind.wrap_i64]; omega
      have hw5 : IntKind.i64.wrap ((first : Int) + (c : Int)) = (fc : Int) := by rw [IntKind.wrap_i64]; omega
      have hw6 : IntKind.i64.wrap ((fc : Int) + 1) = (fc1 : Int) := by rw [IntKind.wrap_i64]; omega
      have hw7 : IntKind.i64.wrap ((first : Int) + (c1 : Int)) = (fc1 : Int) := by rw [IntKind.wrap_i64]; omega
      have HE := Lib.hid (And.intro hc1 (And.intro hfr (And.intro hfc hfc1)))
      have hbd : fr < n ∧ fc < n ∧ c1 ≤ n := by omega
      have hbd1 : c1 < hi → fc1 < n := by omega
      have hst := Lib.hid (fun (ch : Nat) hh => siftDown_step ltN hi first root ch G (by rw [HC.out]; exact hge) hh)
      clear hc1 hfr hfc hfc1
      by_cases h2 : c1 < hi
      · have hd2 : decide ((c1 : Int) < (hi : Int)) = true := by rw [decide_eq_true_eq]; omega
        obtain ⟨vx, vy, bb0, qc1, qf1, qc2, qf2, qi1, qi2, hcl0, HB0⟩ := u32_less (X := fc) (Y := fc1) hIn hG.out.1 hbd.2.1 (hbd1 h2)
        have HCl := Lib.hid hcl0
        have HR0 := Lib.hid hIn
        clear hcl0
        have HK := Lib.hid hK
        clear hIn hK
        go_wp2_with fail
        go_quiet (first | (go_at_call 216; exact Calls.quiet_of_same (HCl.out _)))
        obtain ⟨w3, hww⟩ : ∃ W, World.drewN wr nq = W := ⟨_, rfl⟩
        rw [hww]
        have hI3 : U32 w3 blk G := hww ▸ u32_drewN HR0.out
        have b3 : RowKit.Below (World.heap wr).size wr w3 := hww ▸ below_drewN (RowKit.Below.refl _ _) _
        clear hww qc1 qf1 qc2 qf2 qi1 qi2
        have HY := Lib.hid (And.intro hI3 (HK.out.old b3))
        clear hI3 b3 HK
        obtain ⟨b1, hb1⟩ : ∃ B, bb0 = B := ⟨_, rfl⟩
        rw [hb1]
        have HB1 := Lib.hid (HB0.out.trans hb1)
        clear hb1
        cases b1
        · skip
          obtain ⟨vx, vy, bb0, qc1, qf1, qc2, qf2, qi1, qi2, hcl0, HB0⟩ := u32_less (X := fr) (Y := fc) HY.out.1 hG.out.1 hbd.1 hbd.2.1
          have HCl := Lib.hid hcl0
          have HR0 := Lib.hid (HY.out.1)
          clear hcl0
          go_wp2_with fail
          go_quiet (first | (go_at_call 216; exact Calls.quiet_of_same (HCl.out _)))
          obtain ⟨w5, hww⟩ : ∃ W, World.drewN w3 nq = W := ⟨_, rfl⟩
          rw [hww]
          have hI5 : U32 w5 blk G := hww ▸ u32_drewN HR0.out
          have b5 : RowKit.Below (World.heap w3).size w3 w5 := hww ▸ below_drewN (RowKit.Below.refl _ _) _
          clear hww qc1 qf1 qc2 qf2 qi1 qi2
          have HZ := Lib.hid (And.intro hI5 (HY.out.2.old b5))
          clear hI5 b5
          obtain ⟨b2, hb2⟩ : ∃ B, bb0 = B := ⟨_, rfl⟩
          rw [hb2]
          have HB2 := Lib.hid (HB0.out.trans hb2)
          clear hb2
          have hst2 := hst.out (c) (Or.inl ⟨HC.out.symm, fun hh => by
            have q := hh.2
            rw [HC.out, HE.out.2.2.1, HE.out.2.2.2, HB1.out] at q
            exact absurd q (by decide)⟩)
          rw [show first + root = fr from HE.out.2.1, show first + c = fc by have := HE.out; omega, HB2.out] at hst2
          replace hst2 := Lib.hid hst2
          cases b2
          · go_wp2_with fail
            refine bodyPost_ret (results_none rfl _ _ _) rfl ?_
            have e := hst2.out
            simp only [reduceIte, Bool.false_eq_true] at e
            rw [← hG.out.2, e]
            exact ⟨rfl, ⟨HZ.out.1, hG.out.1⟩, HZ.out.2⟩
          · obtain ⟨sx, sy, qd1, qg1, qd2, qg2, qj1, qj2, qd3, HS0⟩ := u32_swapF (X := fr) (Y := fc) HZ.out.1 hG.out.1 hbd.1 hbd.2.1
            go_wp2_with fail
            go_region
            obtain ⟨w6, hww⟩ : ∃ W, ((World.setCell w5 ⟨blk, fr, none⟩ (.int .u32 (sy : Nat))).setCell ⟨blk, fc, none⟩ (.int .u32 (sx : Nat))).drew = W := ⟨_, rfl⟩
            rw [hww]
            have hI6 : U32 w6 blk (swp G fr fc) := hww ▸ HS0.out.1
            have k6 : Kp [blk] w5 w6 := hww ▸ HS0.out.2
            clear hww qd1 qg1 qd2 qg2 qj1 qj2 qd3
            have HW := Lib.hid (And.intro hI6 (HZ.out.2.trans k6))
            clear hI6 k6
            go_wp2_with fail
            go_roundw
            case rel =>
              have e := hst2.out
              simp only [reduceIte] at e
              exact ⟨c, by have := HE.out; omega, rfl, ⟨_, HW.out.1, Lib.hid ⟨(swp_size _ _ _).trans hG.out.1, by rw [← hG.out.2, e]⟩⟩, HW.out.2⟩
            case measure => have := HE.out; simp [intOf]; omega
        · skip
          obtain ⟨vx, vy, bb0, qc1, qf1, qc2, qf2, qi1, qi2, hcl0, HB0⟩ := u32_less (X := fr) (Y := fc1) HY.out.1 hG.out.1 hbd.1 (hbd1 h2)
          have HCl := Lib.hid hcl0
          have HR0 := Lib.hid (HY.out.1)
          clear hcl0
          go_wp2_with fail
          go_quiet (first | (go_at_call 216; exact Calls.quiet_of_same (HCl.out _)))
          obtain ⟨w5, hww⟩ : ∃ W, World.drewN w3 nq = W := ⟨_, rfl⟩
          rw [hww]
          have hI5 : U32 w5 blk G := hww ▸ u32_drewN HR0.out
          have b5 : RowKit.Below (World.heap w3).size w3 w5 := hww ▸ below_drewN (RowKit.Below.refl _ _) _
          clear hww qc1 qf1 qc2 qf2 qi1 qi2
          have HZ := Lib.hid (And.intro hI5 (HY.out.2.old b5))
          clear hI5 b5
          obtain ⟨b2, hb2⟩ : ∃ B, bb0 = B := ⟨_, rfl⟩
          rw [hb2]
          have HB2 := Lib.hid (HB0.out.trans hb2)
          clear hb2
          have hst2 := hst.out (c1) (Or.inr ⟨by have := HE.out; have := HC.out; omega, by have := HE.out; have := HC.out; omega, by rw [HC.out, HE.out.2.2.1, HE.out.2.2.2]; exact HB1.out⟩)
          rw [show first + root = fr from HE.out.2.1, show first + c1 = fc1 by have := HE.out; omega, HB2.out] at hst2
          replace hst2 := Lib.hid hst2
          cases b2
          · go_wp2_with fail
            refine bodyPost_ret (results_none rfl _ _ _) rfl ?_
            have e := hst2.out
            simp only [reduceIte, Bool.false_eq_true] at e
            rw [← hG.out.2, e]
            exact ⟨rfl, ⟨HZ.out.1, hG.out.1⟩, HZ.out.2⟩
          · obtain ⟨sx, sy, qd1, qg1, qd2, qg2, qj1, qj2, qd3, HS0⟩ := u32_swapF (X := fr) (Y := fc1) HZ.out.1 hG.out.1 hbd.1 (hbd1 h2)
            go_wp2_with fail
            go_region
            obtain ⟨w6, hww⟩ : ∃ W, ((World.setCell w5 ⟨blk, fr, none⟩ (.int .u32 (sy : Nat))).setCell ⟨blk, fc1, none⟩ (.int .u32 (sx : Nat))).drew = W := ⟨_, rfl⟩
            rw [hww]
            have hI6 : U32 w6 blk (swp G fr fc1) := hww ▸ HS0.out.1
            have k6 : Kp [blk] w5 w6 := hww ▸ HS0.out.2
            clear hww qd1 qg1 qd2 qg2 qj1 qj2 qd3
            have HW := Lib.hid (And.intro hI6 (HZ.out.2.trans k6))
            clear hI6 k6
            go_wp2_with fail
            go_roundw
            case rel =>
              have e := hst2.out
              simp only [reduceIte] at e
              exact ⟨c1, by have := HE.out; omega, rfl, ⟨_, HW.out.1, Lib.hid ⟨(swp_size _ _ _).trans hG.out.1, by rw [← hG.out.2, e]⟩⟩, HW.out.2⟩
            case measure => have := HE.out; simp [intOf]; omega
      · have hd2 : decide ((c1 : Int) < (hi : Int)) = false := by rw [decide_eq_false_iff_not]; omega
        have HY0 := Lib.hid (And.intro hIn hK)
        clear hIn hK
        go_wp2_with fail
        go_quiet (fail)
        obtain ⟨wq, hwq⟩ : ∃ W, World.drewN wr nq = W := ⟨_, rfl⟩
        rw [hwq]
        have HY := Lib.hid (And.intro (u32_q HY0.out.1 hwq) (kp_q HY0.out.2 hwq))
        clear hwq
        obtain ⟨vx, vy, bb0, qc1, qf1, qc2, qf2, qi1, qi2, hcl0, HB0⟩ := u32_less (X := fr) (Y := fc) HY.out.1 hG.out.1 hbd.1 hbd.2.1
        have HCl := Lib.hid hcl0
        have HR0 := Lib.hid (HY.out.1)
        clear hcl0
        go_wp2_with fail
        go_quiet (first | (go_at_call 216; exact Calls.quiet_of_same (HCl.out _)))
        obtain ⟨w5, hww⟩ : ∃ W, World.drewN wq nq = W := ⟨_, rfl⟩
        rw [hww]
        have hI5 : U32 w5 blk G := hww ▸ u32_drewN HR0.out
        have b5 : RowKit.Below (World.heap wq).size wq w5 := hww ▸ below_drewN (RowKit.Below.refl _ _) _
        clear hww qc1 qf1 qc2 qf2 qi1 qi2
        have HZ := Lib.hid (And.intro hI5 (HY.out.2.old b5))
        clear hI5 b5
        obtain ⟨b2, hb2⟩ : ∃ B, bb0 = B := ⟨_, rfl⟩
        rw [hb2]
        have HB2 := Lib.hid (HB0.out.trans hb2)
        clear hb2
        have hst2 := hst.out (c) (Or.inl ⟨HC.out.symm, fun hh => by have := HE.out; have := HC.out; omega⟩)
        rw [show first + root = fr from HE.out.2.1, show first + c = fc by have := HE.out; omega, HB2.out] at hst2
        replace hst2 := Lib.hid hst2
        cases b2
        · go_wp2_with fail
          refine bodyPost_ret (results_none rfl _ _ _) rfl ?_
          have e := hst2.out
          simp only [reduceIte, Bool.false_eq_true] at e
          rw [← hG.out.2, e]
          exact ⟨rfl, ⟨HZ.out.1, hG.out.1⟩, HZ.out.2⟩
        · obtain ⟨sx, sy, qd1, qg1, qd2, qg2, qj1, qj2, qd3, HS0⟩ := u32_swapF (X := fr) (Y := fc) HZ.out.1 hG.out.1 hbd.1 hbd.2.1
          go_wp2_with fail
          go_region
          obtain ⟨w6, hww⟩ : ∃ W, ((World.setCell w5 ⟨blk, fr, none⟩ (.int .u32 (sy : Nat))).setCell ⟨blk, fc, none⟩ (.int .u32 (sx : Nat))).drew = W := ⟨_, rfl⟩
          rw [hww]
          have hI6 : U32 w6 blk (swp G fr fc) := hww ▸ HS0.out.1
          have k6 : Kp [blk] w5 w6 := hww ▸ HS0.out.2
          clear hww qd1 qg1 qd2 qg2 qj1 qj2 qd3
          have HW := Lib.hid (And.intro hI6 (HZ.out.2.trans k6))
          clear hI6 k6
          go_wp2_with fail
          go_roundw
          case rel =>
            have e := hst2.out
            simp only [reduceIte] at e
            exact ⟨c, by have := HE.out; omega, rfl, ⟨_, HW.out.1, Lib.hid ⟨(swp_size _ _ _).trans hG.out.1, by rw [← hG.out.2, e]⟩⟩, HW.out.2⟩
          case measure => have := HE.out; simp [intOf]; omega

set_option maxRecDepth 100000 in
set_option maxHeartbeats 2000000 in
theorem heapSort_u32 (blk cp n : Nat) (hnc : n ≤ cp) (a b : Nat) (hab : a < b) (hb : b ≤ n) (hn : n ≤ 1000) (w : World) (D : Array Nat) (h : U32 w blk D) (hD : D.size = n) :
    Calls Tryz.prog 211 #[.slice (some ⟨blk, 0, none⟩) n cp, .int .i64 a, .int .i64 b] w fun e w' => e = .returned (.tuple #[]) ∧ U32 w' blk (heapSort ltN D a b) ∧ Kp [blk] w w' := by
  have HI := Lib.hid (And.intro h trivial)
  clear h
  obtain ⟨hi, hhi⟩ : ∃ hi : Nat, b - a = hi := ⟨_, rfl⟩
  obtain ⟨q, hq⟩ : ∃ q : Nat, (hi - 1) / 2 = q := ⟨_, rfl⟩
  have hw1 : IntKind.i64.wrap ((b : Int) - (a : Int)) = (hi : Int) := by rw [IntKind.wrap_i64]; omega
  have hw2 : IntKind.i64.wrap ((hi : Int) - 1) = (hi : Int) - 1 := by rw [IntKind.wrap_i64]; omega
  have hw3 : IntKind.i64.wrap (Int.tdiv ((hi : Int) - 1) 2) = (q : Int) := by
    rw [Int.tdiv_eq_ediv_of_nonneg (by omega), IntKind.wrap_i64]; omega
  have hb1 : 0 < hi ∧ a + hi ≤ n ∧ q < hi := by omega
  have HE := Lib.hid (And.intro hhi hq)
  clear hhi hq
  go_enter Tryz.func211, Tryz.ntmps211
  go_wp2_with fail
  clear hw2 hw3
  go_loopw [9] (fun x wr => ∃ k : Nat, k ≤ q + 1 ∧ x = .int .i64 ((k : Int) - 1) ∧ (∃ G, U32 wr blk G ∧ Hid (G.size = n ∧ heapBuild ltN hi a k G = heapBuild ltN hi a (q + 1) D)) ∧ Kp [blk] w wr) (fun x _ => (intOf x + 1).toNat)
  case atStart => exact ⟨q + 1, Nat.le_refl _, by congr 1; omega, ⟨D, HI.out.1, Lib.hid ⟨hD, rfl⟩⟩, Kp.refl _ _⟩
  case round =>
    obtain ⟨k, hk, rfl, ⟨G, hIn, hG⟩, hK⟩ := hrel
    by_cases hk0 : 0 < k
    · obtain ⟨i, rfl⟩ : ∃ i, k = i + 1 := ⟨k - 1, by omega⟩
      rw [show ((i + 1 : Nat) : Int) - 1 = (i : Int) by omega]
      have hdd : decide ((0 : Int) ≤ (i : Int)) = true := by rw [decide_eq_true_eq]; omega
      have hwi : IntKind.i64.wrap ((i : Int) - 1) = (i : Int) - 1 := by rw [IntKind.wrap_i64]; omega
      have HC := Lib.hid (siftDown_u32 blk cp n hnc i hi a (by omega) hb1.2.1 hn wr G hIn hG.out.1)
      have HK := Lib.hid hK
      clear hIn hK
      go_wp2_with fail
      refine HC.out.mono ?_
      rintro e w3 ⟨rfl, h3, k3⟩
      have HY := Lib.hid (And.intro h3 (HK.out.trans k3))
      clear h3 k3 HC HK
      go_wp2_with fail
      go_roundw
      case rel => exact ⟨i, by omega, rfl, ⟨_, HY.out.1.1, Lib.hid ⟨HY.out.1.2, by rw [← hG.out.2, heapBuild_succ]⟩⟩, HY.out.2⟩
      case measure => simp [intOf]
    · obtain rfl : k = 0 := by omega
      obtain ⟨z, hz⟩ : ∃ z : Int, ((0 : Nat) : Int) - 1 = z := ⟨_, rfl⟩
      rw [hz]
      have hdd : decide ((0 : Int) ≤ z) = false := by rw [← hz]; decide
      clear hz
      have hww : IntKind.i64.wrap ((hi : Int) - 1) = (hi : Int) - 1 := by rw [IntKind.wrap_i64]; omega
      have HX := Lib.hid (And.intro hIn hK)
      have HG := Lib.hid hG.out
      clear hIn hK hG
      go_wp2_with fail
      clear hdd hww
      go_loopw [10] (fun x wr => ∃ k : Nat, k ≤ hi ∧ x = .int .i64 ((k : Int) - 1) ∧ (∃ F, U32 wr blk F ∧ Hid (F.size = n ∧ heapPop ltN a k F = heapPop ltN a hi G)) ∧ Kp [blk] w wr) (fun x _ => (intOf x + 1).toNat)
      case atStart => exact ⟨hi, Nat.le_refl _, rfl, ⟨G, HX.out.1, Lib.hid ⟨HG.out.1, rfl⟩⟩, HX.out.2⟩
      case round =>
        obtain ⟨k, hk, rfl, ⟨F, hIn, hF⟩, hK⟩ := hrel
        by_cases hk0 : 0 < k
        · obtain ⟨i, rfl⟩ : ∃ i, k = i + 1 := ⟨k - 1, by omega⟩
          rw [show ((i + 1 : Nat) : Int) - 1 = (i : Int) by omega]
          obtain ⟨ai, hai⟩ : ∃ ai : Nat, a + i = ai := ⟨_, rfl⟩
          have hdd : decide ((0 : Int) ≤ (i : Int)) = true := by rw [decide_eq_true_eq]; omega
          have hwi : IntKind.i64.wrap ((i : Int) - 1) = (i : Int) - 1 := by rw [IntKind.wrap_i64]; omega
          have hwa : IntKind.i64.wrap ((a : Int) + (i : Int)) = (ai : Int) := by rw [IntKind.wrap_i64]; omega
          have hb2 : a < n ∧ ai < n ∧ a + i ≤ n := by omega
          have HA := Lib.hid hai
          obtain ⟨sx, sy, qd1, qg1, qd2, qg2, qj1, qj2, qd3, HS0⟩ := u32_swapF (X := a) (Y := ai) hIn hF.out.1 hb2.1 hb2.2.1
          have HK := Lib.hid hK
          clear hIn hK hai
          go_wp2_with fail
          go_region
          obtain ⟨w3, hww⟩ : ∃ W, ((World.setCell wr ⟨blk, a, none⟩ (.int .u32 (sy : Nat))).setCell ⟨blk, ai, none⟩ (.int .u32 (sx : Nat))).drew = W := ⟨_, rfl⟩
          rw [hww]
          have h3 : U32 w3 blk (swp F a ai) := hww ▸ HS0.out.1
          have k3 : Kp [blk] wr w3 := hww ▸ HS0.out.2
          clear hww qd1 qg1 qd2 qg2 qj1 qj2 qd3
          have HC := Lib.hid (siftDown_u32 blk cp n hnc 0 i a (by omega) hb2.2.2 hn w3 (swp F a ai) h3 ((swp_size _ _ _).trans hF.out.1))
          have HY := Lib.hid (HK.out.trans k3)
          clear h3 k3 HK
          go_wp2_with fail
          refine HC.out.mono ?_
          rintro e w4 ⟨rfl, h4, k4⟩
          have HZ := Lib.hid (And.intro h4 (HY.out.trans k4))
          clear h4 k4 HC HY
          go_wp2_with fail
          go_roundw
          case rel =>
            exact ⟨i, by omega, rfl, ⟨_, HZ.out.1.1, Lib.hid ⟨HZ.out.1.2, by rw [← hF.out.2, heapPop_succ, HA.out]⟩⟩, HZ.out.2⟩
          case measure => simp [intOf]
        · obtain rfl : k = 0 := by omega
          have hdd : decide ((0 : Int) ≤ ((0 : Nat) : Int) - 1) = false := by decide
          have HY := Lib.hid (And.intro hIn hK)
          clear hIn hK
          go_wp2_with fail
          go_end0
          have e : heapSort ltN D a b = F := by
            show heapPop ltN a (b - a) (heapBuild ltN (b - a) a ((b - a - 1) / 2 + 1) D) = F
            rw [HE.out.1, HE.out.2, ← HG.out.2, show heapBuild ltN hi a 0 G = G from rfl, ← hF.out.2]
            rfl
          rw [e]
          exact ⟨rfl, HY.out.1, HY.out.2⟩
end Go.Proofs.YtcljffldbnoljaaGreatDoor
