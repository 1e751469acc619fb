/-
  slices.partition, sort.partitionEqual over a row of uint32: what they leave of the row. Conditions: as each contract says.
-/
import Derived.Test.YtcljffldbnoljaaGreatDoorJYa
import Derived.Test.YtcljffldbnoljaaGreatDoorJVb
namespace Go.Proofs.YtcljffldbnoljaaGreatDoor
open Go.RowKit Go.Sort

set_option maxRecDepth 100000 in
set_option maxHeartbeats 4000000 in
theorem partition_u32 (blk cp n : Nat) (_hnc : n ≤ cp) (a b pivot : Nat) (hap : a ≤ pivot) (hpb : pivot < b) (hb : b ≤ n) (hn : n ≤ 1000) (w : World) (D : Array Nat) (h : U32 w blk D) (hD : D.size = n) :
    Calls Tryz.prog 218 #[.slice (some ⟨blk, 0, none⟩) n cp, .int .i64 a, .int .i64 b, .int .i64 pivot] w (fun e w' => (∃ (m : Nat) (G : Array Nat) (ap : Bool), e = .returned (.tuple #[.int .i64 m, .bool ap]) ∧ U32 w' blk G ∧ PartP ltN a b D m G) ∧ Kp [blk] w w') := by
  have HI := Lib.hid (And.intro h trivial)
  clear h
  obtain ⟨J, hJ⟩ : ∃ J : Nat, b - 1 = J := ⟨_, rfl⟩
  obtain ⟨a1, ha1⟩ : ∃ a1 : Nat, a + 1 = a1 := ⟨_, rfl⟩
  have hw1 : IntKind.i64.wrap ((b : Int) - 1) = (J : Int) := by rw [IntKind.wrap_i64]; omega
  have hw2 : IntKind.i64.wrap ((a : Int) + 1) = (a1 : Int) := by rw [IntKind.wrap_i64]; omega
  have hbd : a < n ∧ J < n ∧ J < b ∧ b ≤ J + 1 ∧ a < a1 ∧ a1 ≤ a + 1 ∧ a1 ≤ J + 1 ∧ pivot < n := by omega
  obtain ⟨D1, hD1⟩ : ∃ D1, swp D a pivot = D1 := ⟨_, rfl⟩
  have hP1 : Hid (D1.size = n ∧ PI ltN a b D a1 J D1) := Lib.hid (by rw [← hD1, ← hJ, ← ha1]; exact ⟨(swp_size _ _ _).trans hD, pi_start hap hpb (by omega)⟩)
  have HD := Lib.hid (And.intro hD hD1)
  clear hJ ha1 hD hD1
  obtain ⟨sx, sy, qd1, qg1, qd2, qg2, qj1, qj2, qd3, HS0⟩ := u32_swapF (X := a) (Y := pivot) HI.out.1 HD.out.1 hbd.1 hbd.2.2.2.2.2.2.2
  go_enter Tryz.func218, Tryz.ntmps218
  go_wp2_with fail
  go_region
  obtain ⟨w2, hww⟩ : ∃ W, ((World.setCell w ⟨blk, a, none⟩ (.int .u32 (sy : Nat))).setCell ⟨blk, pivot, none⟩ (.int .u32 (sx : Nat))).drew = W := ⟨_, rfl⟩
  rw [hww]
  have h2 : U32 w2 blk (swp D a pivot) := hww ▸ HS0.out.1
  have k2 : Kp [blk] w w2 := hww ▸ HS0.out.2
  clear hww qd1 qg1 qd2 qg2 qj1 qj2 qd3
  rw [HD.out.2] at h2
  have H2 := Lib.hid (And.intro h2 k2)
  clear h2 k2
  go_wp2_with fail
  go_loopw [10] (fun x wr => ∃ i : Nat, a1 ≤ i ∧ i ≤ J + 1 ∧ x = .int .i64 i ∧ (U32 wr blk D1 ∧ Hid (D1.size = n ∧ PI ltN a b D i J D1)) ∧ Kp [blk] w wr) (fun x _ => J + 1 - (intOf x).toNat)
  case atStart => exact ⟨a1, Nat.le_refl _, by omega, rfl, ⟨H2.out.1, hP1⟩, H2.out.2⟩
  case round =>
    obtain ⟨i, hai, hij, rfl, ⟨hIn, hG⟩, hK⟩ := hrel
    have hwi : IntKind.i64.wrap ((i : Int) + 1) = (i : Int) + 1 := by rw [IntKind.wrap_i64]; omega
    by_cases hle : i ≤ J
    · have hdd : decide ((i : Int) ≤ (J : Int)) = true := by rw [decide_eq_true_eq]; omega
      obtain ⟨vx, vy, bb0, qc1, qf1, qc2, qf2, qi1, qi2, hcl0, HB0⟩ := u32_less (X := i) (Y := a) hIn hG.out.1 (by omega) (by omega)
      have HCl := Lib.hid hcl0
      have HR0 := Lib.hid hIn
      clear hcl0
      have HK := Lib.hid hK
      clear hIn hK
      go_wp2_with fail
      go_quiet (first | (go_at_call 216; exact Calls.quiet_of_same (HCl.out _)))
      obtain ⟨w3, hww⟩ : ∃ W, World.drewN wr nq = W := ⟨_, rfl⟩
      rw [hww]
      have hI3 : U32 w3 blk D1 := hww ▸ u32_drewN HR0.out
      have b3 : RowKit.Below (World.heap wr).size wr w3 := hww ▸ below_drewN (RowKit.Below.refl _ _) _
      clear hww qc1 qf1 qc2 qf2 qi1 qi2
      have HY := Lib.hid (And.intro hI3 (HK.out.old b3))
      obtain ⟨bb, hbb⟩ : ∃ B, bb0 = B := ⟨_, rfl⟩
      rw [hbb]
      have HB := Lib.hid (HB0.out.trans hbb)
      clear hI3 b3 hbb HK
      cases bb
      · go_wp2_with fail
        go_loopw [11] (fun x wr => ∃ j : Nat, j ≤ J ∧ i ≤ j + 1 ∧ x = .int .i64 j ∧ (U32 wr blk D1 ∧ Hid (D1.size = n ∧ PI ltN a b D i j D1)) ∧ Kp [blk] w wr) (fun x _ => (intOf x).toNat)
        case atStart => exact ⟨J, Nat.le_refl _, by omega, rfl, ⟨HY.out.1, hG⟩, HY.out.2⟩
        case round =>
          obtain ⟨j, hjJ, hij2, rfl, ⟨hIn, hG⟩, hK⟩ := hrel
          have hwj : IntKind.i64.wrap ((j : Int) - 1) = (j : Int) - 1 := by rw [IntKind.wrap_i64]; omega
          by_cases hle2 : i ≤ j
          · have hdd : decide ((i : Int) ≤ (j : Int)) = true := by rw [decide_eq_true_eq]; omega
            obtain ⟨vx, vy, bb0, qc1, qf1, qc2, qf2, qi1, qi2, hcl0, HB0⟩ := u32_less (X := j) (Y := a) hIn hG.out.1 (by omega) (by omega)
            have HCl := Lib.hid hcl0
            have HR0 := Lib.hid hIn
            clear hcl0
            have HK := Lib.hid hK
            clear hIn hK
            go_wp2_with fail
            go_quiet (first | (go_at_call 216; exact Calls.quiet_of_same (HCl.out _)))
            obtain ⟨w3, hww⟩ : ∃ W, World.drewN wr nq = W := ⟨_, rfl⟩
            rw [hww]
            have hI3 : U32 w3 blk D1 := hww ▸ u32_drewN HR0.out
            have b3 : RowKit.Below (World.heap wr).size wr w3 := hww ▸ below_drewN (RowKit.Below.refl _ _) _
            clear hww qc1 qf1 qc2 qf2 qi1 qi2
            have HY := Lib.hid (And.intro hI3 (HK.out.old b3))
            obtain ⟨bb, hbb⟩ : ∃ B, bb0 = B := ⟨_, rfl⟩
            rw [hbb]
            have HB2 := Lib.hid (HB0.out.trans hbb)
            clear hI3 b3 hbb HK
            cases bb
            · go_wp2_with fail
              go_roundw
              case rel => exact ⟨j - 1, by omega, by omega, by congr 1; omega, ⟨HY.out.1, Lib.hid ⟨hG.out.1, pi_down hG.out.2 HB2.out⟩⟩, HY.out.2⟩
              case measure => simp [intOf]; omega
            · have hgt : decide ((j : Int) < (i : Int)) = false := by rw [decide_eq_false_iff_not]; omega
              have hne : i ≠ j := by
                intro e
                have e1 := HB.out
                rw [e, HB2.out] at e1
                cases e1
              obtain ⟨sx, sy, qd1, qg1, qd2, qg2, qj1, qj2, qd3, HS0⟩ := u32_swapF (X := i) (Y := j) HY.out.1 hG.out.1 (by omega) (by omega)
              have HF := Lib.hid HY.out.2
              go_wp2_with fail
              go_region
              obtain ⟨w6, hww⟩ : ∃ W, ((World.setCell w3 ⟨blk, i, none⟩ (.int .u32 (sy : Nat))).setCell ⟨blk, j, none⟩ (.int .u32 (sx : Nat))).drew = W := ⟨_, rfl⟩
              rw [hww]
              have h6 : U32 w6 blk (swp D1 i j) := hww ▸ HS0.out.1
              have k6 : Kp [blk] w3 w6 := hww ▸ HS0.out.2
              clear hww qd1 qg1 qd2 qg2 qj1 qj2 qd3
              have H6 := Lib.hid (And.intro h6 (HF.out.trans k6))
              clear h6 k6
              have hwi2 : IntKind.i64.wrap ((i : Int) + 1) = ((i + 1 : Nat) : Int) := by rw [IntKind.wrap_i64]; omega
              have hwj2 : IntKind.i64.wrap ((j : Int) - 1) = ((j - 1 : Nat) : Int) := by rw [IntKind.wrap_i64]; omega
              go_wp2_with fail
              clear hwi2 hwj2 hwi hwj hdd hgt
              have H7 : Hid ((swp D1 i j).size = n ∧ PI ltN a b D (i + 1) (j - 1) (swp D1 i j)) := Lib.hid ⟨(swp_size _ _ _).trans hG.out.1, pi_swap hG.out.2 (by omega) (by omega) (by omega) (by have := HD.out.1; omega) HB.out HB2.out⟩
              go_loopw [10, 11] (fun x y wr => ∃ (i j : Nat) (G : Array Nat), a < i ∧ i ≤ j + 1 ∧ j ≤ J ∧ x = .int .i64 i ∧ y = .int .i64 j ∧ (U32 wr blk G ∧ Hid (G.size = n ∧ PI ltN a b D i j G)) ∧ Kp [blk] w wr) (fun x y _ => (intOf y + 1 - intOf x).toNat)
              case atStart => exact ⟨i + 1, j - 1, swp D1 i j, by omega, by omega, by omega, by go_num, by congr 1; omega, ⟨H6.out.1, H7⟩, H6.out.2⟩
              case round =>
                obtain ⟨i0, j0, G, hai0, hij0, hjJ0, rfl, rfl, ⟨hIn, hG⟩, hK⟩ := hrel
                have HO := Lib.hid (And.intro hIn hK)
                clear hIn hK
                go_wp2_with fail
                go_loopw [10] (fun x wr => ∃ i : Nat, i0 ≤ i ∧ i ≤ j0 + 1 ∧ x = .int .i64 i ∧ (U32 wr blk G ∧ Hid (G.size = n ∧ PI ltN a b D i j0 G)) ∧ Kp [blk] w wr) (fun x _ => j0 + 1 - (intOf x).toNat)
                case atStart => exact ⟨i0, Nat.le_refl _, by omega, rfl, ⟨HO.out.1, hG⟩, HO.out.2⟩
                case round =>
                  obtain ⟨i, hai, hij, rfl, ⟨hIn, hG⟩, hK⟩ := hrel
                  have hwi : IntKind.i64.wrap ((i : Int) + 1) = (i : Int) + 1 := by rw [IntKind.wrap_i64]; omega
                  by_cases hle : i ≤ j0
                  · have hdd : decide ((i : Int) ≤ (j0 : Int)) = true := by rw [decide_eq_true_eq]; omega
                    obtain ⟨vx, vy, bb0, qc1, qf1, qc2, qf2, qi1, qi2, hcl0, HB0⟩ := u32_less (X := i) (Y := a) hIn hG.out.1 (by omega) (by omega)
                    have HCl := Lib.hid hcl0
                    have HR0 := Lib.hid hIn
                    clear hcl0
                    have HK := Lib.hid hK
                    clear hIn hK
                    go_wp2_with fail
                    go_quiet (first | (go_at_call 216; exact Calls.quiet_of_same (HCl.out _)))
                    obtain ⟨w3, hww⟩ : ∃ W, World.drewN wr nq = W := ⟨_, rfl⟩
                    rw [hww]
                    have hI3 : U32 w3 blk G := hww ▸ u32_drewN HR0.out
                    have b3 : RowKit.Below (World.heap wr).size wr w3 := hww ▸ below_drewN (RowKit.Below.refl _ _) _
                    clear hww qc1 qf1 qc2 qf2 qi1 qi2
                    have HY := Lib.hid (And.intro hI3 (HK.out.old b3))
                    obtain ⟨bb, hbb⟩ : ∃ B, bb0 = B := ⟨_, rfl⟩
                    rw [hbb]
                    have HB := Lib.hid (HB0.out.trans hbb)
                    clear hI3 b3 hbb HK
                    cases bb
                    · go_wp2_with fail
                      go_loopw [11] (fun x wr => ∃ j : Nat, j ≤ j0 ∧ i ≤ j + 1 ∧ x = .int .i64 j ∧ (U32 wr blk G ∧ Hid (G.size = n ∧ PI ltN a b D i j G)) ∧ Kp [blk] w wr) (fun x _ => (intOf x).toNat)
                      case atStart => exact ⟨j0, Nat.le_refl _, by omega, rfl, ⟨HY.out.1, hG⟩, HY.out.2⟩
                      case round =>
                        obtain ⟨j, hjJ, hij2, rfl, ⟨hIn, hG⟩, hK⟩ := hrel
                        have hwj : IntKind.i64.wrap ((j : Int) - 1) = (j : Int) - 1 := by rw [IntKind.wrap_i64]; omega
                        by_cases hle2 : i ≤ j
                        · have hdd : decide ((i : Int) ≤ (j : Int)) = true := by rw [decide_eq_true_eq]; omega
                          obtain ⟨vx, vy, bb0, qc1, qf1, qc2, qf2, qi1, qi2, hcl0, HB0⟩ := u32_less (X := j) (Y := a) hIn hG.out.1 (by omega) (by omega)
                          have HCl := Lib.hid hcl0
                          have HR0 := Lib.hid hIn
                          clear hcl0
                          have HK := Lib.hid hK
                          clear hIn hK
                          go_wp2_with fail
                          go_quiet (first | (go_at_call 216; exact Calls.quiet_of_same (HCl.out _)))
                          obtain ⟨w3, hww⟩ : ∃ W, World.drewN wr nq = W := ⟨_, rfl⟩
                          rw [hww]
                          have hI3 : U32 w3 blk G := hww ▸ u32_drewN HR0.out
                          have b3 : RowKit.Below (World.heap wr).size wr w3 := hww ▸ below_drewN (RowKit.Below.refl _ _) _
                          clear hww qc1 qf1 qc2 qf2 qi1 qi2
                          have HY := Lib.hid (And.intro hI3 (HK.out.old b3))
                          obtain ⟨bb, hbb⟩ : ∃ B, bb0 = B := ⟨_, rfl⟩
                          rw [hbb]
                          have HB2 := Lib.hid (HB0.out.trans hbb)
                          clear hI3 b3 hbb HK
                          cases bb
                          · go_wp2_with fail
                            go_roundw
                            case rel => exact ⟨j - 1, by omega, by omega, by congr 1; omega, ⟨HY.out.1, Lib.hid ⟨hG.out.1, pi_down hG.out.2 HB2.out⟩⟩, HY.out.2⟩
                            case measure => simp [intOf]; omega
                          · have hgt : decide ((j : Int) < (i : Int)) = false := by rw [decide_eq_false_iff_not]; omega
                            have hne : i ≠ j := by
                              intro e
                              have e1 := HB.out
                              rw [e, HB2.out] at e1
                              cases e1
                            obtain ⟨sx, sy, qd1, qg1, qd2, qg2, qj1, qj2, qd3, HS0⟩ := u32_swapF (X := i) (Y := j) HY.out.1 hG.out.1 (by omega) (by omega)
                            have HF := Lib.hid HY.out.2
                            go_wp2_with fail
                            go_region
                            obtain ⟨w6, hww⟩ : ∃ W, ((World.setCell w3 ⟨blk, i, none⟩ (.int .u32 (sy : Nat))).setCell ⟨blk, j, none⟩ (.int .u32 (sx : Nat))).drew = W := ⟨_, rfl⟩
                            rw [hww]
                            have h6 : U32 w6 blk (swp G i j) := hww ▸ HS0.out.1
                            have k6 : Kp [blk] w3 w6 := hww ▸ HS0.out.2
                            clear hww qd1 qg1 qd2 qg2 qj1 qj2 qd3
                            have H6 := Lib.hid (And.intro h6 (HF.out.trans k6))
                            clear h6 k6
                            go_wp2_with fail
                            go_roundw
                            case rel => exact ⟨i + 1, j - 1, swp G i j, by omega, by omega, by omega, by go_num, by congr 1; omega, ⟨H6.out.1, Lib.hid ⟨(swp_size _ _ _).trans hG.out.1, pi_swap hG.out.2 (by omega) (by omega) (by omega) (by have := HD.out.1; omega) HB.out HB2.out⟩⟩, H6.out.2⟩
                            case measure => simp [intOf]; omega
                        · have hdd : decide ((i : Int) ≤ (j : Int)) = false := by rw [decide_eq_false_iff_not]; omega
                          have hgt : decide ((j : Int) < (i : Int)) = true := by rw [decide_eq_true_eq]; omega
                          have HE0 := Lib.hid (And.intro hIn hK)
                          clear hIn hK
                          go_wp2_with fail
                          go_quiet (fail)
                          obtain ⟨wq, hwq⟩ : ∃ W, World.drewN wr nq = W := ⟨_, rfl⟩
                          rw [hwq]
                          have HE := Lib.hid (And.intro (u32_q HE0.out.1 hwq) (kp_q HE0.out.2 hwq))
                          clear hwq
                          obtain ⟨sx, sy, qd1, qg1, qd2, qg2, qj1, qj2, qd3, HS0⟩ := u32_swapF (X := j) (Y := a) HE.out.1 hG.out.1 (by omega) (by omega)
                          have HF := Lib.hid HE.out.2
                          go_wp2_with fail
                          go_region
                          obtain ⟨w6, hww⟩ : ∃ W, ((World.setCell wq ⟨blk, j, none⟩ (.int .u32 (sy : Nat))).setCell ⟨blk, a, none⟩ (.int .u32 (sx : Nat))).drew = W := ⟨_, rfl⟩
                          rw [hww]
                          have h6 : U32 w6 blk (swp G j a) := hww ▸ HS0.out.1
                          have k6 : Kp [blk] wq w6 := hww ▸ HS0.out.2
                          clear hww qd1 qg1 qd2 qg2 qj1 qj2 qd3
                          have H6 := Lib.hid (And.intro h6 (HF.out.trans k6))
                          clear h6 k6
                          go_wp2_with fail
                          refine bodyPost_ret (v := .tuple #[.int .i64 j, .bool false]) (by simp [results, Tryz.results218, go_sem]) rfl ⟨⟨_, _, _, rfl, H6.out.1, pi_end hG.out.2 (by omega) (by omega) (by omega) (by have := HD.out.1; omega)⟩, H6.out.2⟩
                    · go_wp2_with fail
                      go_roundw
                      case rel => exact ⟨i + 1, by omega, by omega, by go_num, ⟨HY.out.1, Lib.hid ⟨hG.out.1, pi_up hG.out.2 HB.out⟩⟩, HY.out.2⟩
                      case measure => simp [intOf]; omega
                  · have hdd : decide ((i : Int) ≤ (j0 : Int)) = false := by rw [decide_eq_false_iff_not]; omega
                    have HE0 := Lib.hid (And.intro hIn hK)
                    clear hIn hK
                    go_wp2_with fail
                    go_quiet (fail)
                    obtain ⟨wq, hwq⟩ : ∃ W, World.drewN wr nq = W := ⟨_, rfl⟩
                    rw [hwq]
                    have HE := Lib.hid (And.intro (u32_q HE0.out.1 hwq) (kp_q HE0.out.2 hwq))
                    clear hwq
                    go_wp2_with fail
                    clear hdd
                    go_loopw [11] (fun x wr => ∃ j : Nat, j ≤ j0 ∧ i ≤ j + 1 ∧ x = .int .i64 j ∧ (U32 wr blk G ∧ Hid (G.size = n ∧ PI ltN a b D i j G)) ∧ Kp [blk] w wr) (fun x _ => (intOf x).toNat)
                    case atStart => exact ⟨j0, Nat.le_refl _, by omega, rfl, ⟨HE.out.1, hG⟩, HE.out.2⟩
                    case round =>
                      obtain ⟨j, hjJ, hij2, rfl, ⟨hIn, hG⟩, hK⟩ := hrel
                      have hwj : IntKind.i64.wrap ((j : Int) - 1) = (j : Int) - 1 := by rw [IntKind.wrap_i64]; omega
                      by_cases hle2 : i ≤ j
                      · exfalso; omega
                      · have hdd : decide ((i : Int) ≤ (j : Int)) = false := by rw [decide_eq_false_iff_not]; omega
                        have hgt : decide ((j : Int) < (i : Int)) = true := by rw [decide_eq_true_eq]; omega
                        have HE0 := Lib.hid (And.intro hIn hK)
                        clear hIn hK
                        go_wp2_with fail
                        go_quiet (fail)
                        obtain ⟨wq, hwq⟩ : ∃ W, World.drewN wr nq = W := ⟨_, rfl⟩
                        rw [hwq]
                        have HE := Lib.hid (And.intro (u32_q HE0.out.1 hwq) (kp_q HE0.out.2 hwq))
                        clear hwq
                        obtain ⟨sx, sy, qd1, qg1, qd2, qg2, qj1, qj2, qd3, HS0⟩ := u32_swapF (X := j) (Y := a) HE.out.1 hG.out.1 (by omega) (by omega)
                        have HF := Lib.hid HE.out.2
                        go_wp2_with fail
                        go_region
                        obtain ⟨w6, hww⟩ : ∃ W, ((World.setCell wq ⟨blk, j, none⟩ (.int .u32 (sy : Nat))).setCell ⟨blk, a, none⟩ (.int .u32 (sx : Nat))).drew = W := ⟨_, rfl⟩
                        rw [hww]
                        have h6 : U32 w6 blk (swp G j a) := hww ▸ HS0.out.1
                        have k6 : Kp [blk] wq w6 := hww ▸ HS0.out.2
                        clear hww qd1 qg1 qd2 qg2 qj1 qj2 qd3
                        have H6 := Lib.hid (And.intro h6 (HF.out.trans k6))
                        clear h6 k6
                        go_wp2_with fail
                        refine bodyPost_ret (v := .tuple #[.int .i64 j, .bool false]) (by simp [results, Tryz.results218, go_sem]) rfl ⟨⟨_, _, _, rfl, H6.out.1, pi_end hG.out.2 (by omega) (by omega) (by omega) (by have := HD.out.1; omega)⟩, H6.out.2⟩
          · have hdd : decide ((i : Int) ≤ (j : Int)) = false := by rw [decide_eq_false_iff_not]; omega
            have hgt : decide ((j : Int) < (i : Int)) = true := by rw [decide_eq_true_eq]; omega
            have HE0 := Lib.hid (And.intro hIn hK)
            clear hIn hK
            go_wp2_with fail
            go_quiet (fail)
            obtain ⟨wq, hwq⟩ : ∃ W, World.drewN wr nq = W := ⟨_, rfl⟩
            rw [hwq]
            have HE := Lib.hid (And.intro (u32_q HE0.out.1 hwq) (kp_q HE0.out.2 hwq))
            clear hwq
            obtain ⟨sx, sy, qd1, qg1, qd2, qg2, qj1, qj2, qd3, HS0⟩ := u32_swapF (X := j) (Y := a) HE.out.1 hG.out.1 (by omega) (by omega)
            have HF := Lib.hid HE.out.2
            go_wp2_with fail
            go_region
            obtain ⟨w6, hww⟩ : ∃ W, ((World.setCell wq ⟨blk, j, none⟩ (.int .u32 (sy : Nat))).setCell ⟨blk, a, none⟩ (.int .u32 (sx : Nat))).drew = W := ⟨_, rfl⟩
            rw [hww]
            have h6 : U32 w6 blk (swp D1 j a) := hww ▸ HS0.out.1
            have k6 : Kp [blk] wq w6 := hww ▸ HS0.out.2
            clear hww qd1 qg1 qd2 qg2 qj1 qj2 qd3
            have H6 := Lib.hid (And.intro h6 (HF.out.trans k6))
            clear h6 k6
            go_wp2_with fail
            refine bodyPost_ret (v := .tuple #[.int .i64 j, .bool true]) (by simp [results, Tryz.results218, go_sem]) rfl ⟨⟨_, _, _, rfl, H6.out.1, pi_end hG.out.2 (by omega) (by omega) (by omega) (by have := HD.out.1; omega)⟩, H6.out.2⟩
      · go_wp2_with fail
        go_roundw
        case rel => exact ⟨i + 1, by omega, by omega, by go_num, ⟨HY.out.1, Lib.hid ⟨hG.out.1, pi_up hG.out.2 HB.out⟩⟩, HY.out.2⟩
        case measure => simp [intOf]; omega
    · have hdd : decide ((i : Int) ≤ (J : Int)) = false := by rw [decide_eq_false_iff_not]; omega
      have HE0 := Lib.hid (And.intro hIn hK)
      clear hIn hK
      go_wp2_with fail
      go_quiet (fail)
      obtain ⟨wq, hwq⟩ : ∃ W, World.drewN wr nq = W := ⟨_, rfl⟩
      rw [hwq]
      have HE := Lib.hid (And.intro (u32_q HE0.out.1 hwq) (kp_q HE0.out.2 hwq))
      clear hwq
      go_wp2_with fail
      clear hdd
      go_loopw [11] (fun x wr => ∃ j : Nat, j ≤ J ∧ i ≤ j + 1 ∧ x = .int .i64 j ∧ (U32 wr blk D1 ∧ Hid (D1.size = n ∧ PI ltN a b D i j D1)) ∧ Kp [blk] w wr) (fun x _ => (intOf x).toNat)
      case atStart => exact ⟨J, Nat.le_refl _, by omega, rfl, ⟨HE.out.1, hG⟩, HE.out.2⟩
      case round =>
        obtain ⟨j, hjJ, hij2, rfl, ⟨hIn, hG⟩, hK⟩ := hrel
        have hwj : IntKind.i64.wrap ((j : Int) - 1) = (j : Int) - 1 := by rw [IntKind.wrap_i64]; omega
        by_cases hle2 : i ≤ j
        · exfalso; omega
        · have hdd : decide ((i : Int) ≤ (j : Int)) = false := by rw [decide_eq_false_iff_not]; omega
          have hgt : decide ((j : Int) < (i : Int)) = true := by rw [decide_eq_true_eq]; omega
          have HE0 := Lib.hid (And.intro hIn hK)
          clear hIn hK
          go_wp2_with fail
          go_quiet (fail)
          obtain ⟨wq, hwq⟩ : ∃ W, World.drewN wr nq = W := ⟨_, rfl⟩
          rw [hwq]
          have HE := Lib.hid (And.intro (u32_q HE0.out.1 hwq) (kp_q HE0.out.2 hwq))
          clear hwq
          obtain ⟨sx, sy, qd1, qg1, qd2, qg2, qj1, qj2, qd3, HS0⟩ := u32_swapF (X := j) (Y := a) HE.out.1 hG.out.1 (by omega) (by omega)
          have HF := Lib.hid HE.out.2
          go_wp2_with fail
          go_region
          obtain ⟨w6, hww⟩ : ∃ W, ((World.setCell wq ⟨blk, j, none⟩ (.int .u32 (sy : Nat))).setCell ⟨blk, a, none⟩ (.int .u32 (sx : Nat))).drew = W := ⟨_, rfl⟩
          rw [hww]
          have h6 : U32 w6 blk (swp D1 j a) := hww ▸ HS0.out.1
          have k6 : Kp [blk] wq w6 := hww ▸ HS0.out.2
          clear hww qd1 qg1 qd2 qg2 qj1 qj2 qd3
          have H6 := Lib.hid (And.intro h6 (HF.out.trans k6))
          clear h6 k6
          go_wp2_with fail
          refine bodyPost_ret (v := .tuple #[.int .i64 j, .bool true]) (by simp [results, Tryz.results218, go_sem]) rfl ⟨⟨_, _, _, rfl, H6.out.1, pi_end hG.out.2 (by omega) (by omega) (by omega) (by have := HD.out.1; omega)⟩, H6.out.2⟩
end Go.Proofs.YtcljffldbnoljaaGreatDoor
