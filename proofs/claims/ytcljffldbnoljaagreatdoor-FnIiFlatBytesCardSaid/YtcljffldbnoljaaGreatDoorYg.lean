/-
  slices.partialInsertionSort over a row of uint32: what it answers and the very row that it leaves. Conditions: as each contract says.
-/
import Derived.Test.YtcljffldbnoljaaGreatDoorJYa
import Derived.Test.YtcljffldbnoljaaGreatDoorVg
namespace Go.Proofs.YtcljffldbnoljaaGreatDoor
open Go.RowKit Go.Sort

def PiPostU (blk : Nat) (D : Array Nat) (a b : Nat) (w : World) (e : Ending) (w' : World) : Prop :=
  (∃ (G : Array Nat) (r : Bool), partialInsertionSort ltN D a b = (G, r) ∧ e = .returned (.bool r) ∧ U32 w' blk G) ∧ Kp [blk] w w'

set_option maxRecDepth 100000 in
set_option maxHeartbeats 8000000 in
theorem partialInsertionSort_u32 (blk cp n : Nat) (_hnc : n ≤ cp) (a b : Nat) (hab : a < b) (hb : b ≤ n) (hn : n ≤ 1000) (w : World) (D : Array Nat) (h : U32 w blk D) (hD : D.size = n) :
    Calls Tryz.prog 215 #[.slice (some ⟨blk, 0, none⟩) n cp, .int .i64 a, .int .i64 b] w (PiPostU blk D a b w) := by
  have HI := Lib.hid (And.intro h trivial)
  clear h
  obtain ⟨a1, ha1⟩ : ∃ a1 : Nat, a + 1 = a1 := ⟨_, rfl⟩
  obtain ⟨l, hl⟩ : ∃ l : Nat, b - a = l := ⟨_, rfl⟩
  have hw1 : IntKind.i64.wrap ((a : Int) + 1) = (a1 : Int) := by rw [IntKind.wrap_i64]; omega
  have hw2 : IntKind.i64.wrap ((b : Int) - (a : Int)) = (l : Int) := by rw [IntKind.wrap_i64]; omega
  have ha1b : a < a1 ∧ a1 ≤ b := by omega
  have HE := Lib.hid (And.intro ha1 hl)
  clear ha1
  go_enter Tryz.func215, Tryz.ntmps215
  go_wp2_with fail
  go_loopw [7, 8] (fun x y wr => ∃ (i t : Nat) (G : Array Nat), a < i ∧ i ≤ b ∧ t ≤ 5 ∧ x = .int .i64 i ∧ y = .int .i64 t ∧ (U32 wr blk G ∧ Hid (G.size = n ∧ partialIns ltN a b (5 - t) i G = partialInsertionSort ltN D a b)) ∧ Kp [blk] w wr) (fun _ y _ => 5 - (intOf y).toNat)
  case atStart => exact ⟨a1, 0, D, by omega, by omega, by omega, rfl, rfl, ⟨HI.out.1, Lib.hid ⟨hD, by rw [← HE.out.1]; rfl⟩⟩, Kp.refl _ _⟩
  case round =>
    obtain ⟨i0, t, G, hai0, hib0, ht, rfl, rfl, ⟨hIn, hG⟩, hK⟩ := hrel
    have hwt : IntKind.i64.wrap ((t : Int) + 1) = (t : Int) + 1 := by rw [IntKind.wrap_i64]; omega
    by_cases ht5 : t < 5
    · have hdt : decide ((t : Int) < 5) = true := by rw [decide_eq_true_eq]; omega
      obtain ⟨s, hs⟩ : ∃ s, 5 - t = s + 1 := ⟨4 - t, by omega⟩
      have HG2 := hG.out.2
      rw [hs] at HG2
      have HG := Lib.hid (And.intro hG.out.1 (And.intro HG2 hs))
      have HO := Lib.hid (And.intro hIn hK)
      clear hIn hK HG2 hG
      go_wp2_with fail
      go_loopw [7] (fun x wr => ∃ i : Nat, i0 ≤ i ∧ i ≤ b ∧ x = .int .i64 i ∧ (U32 wr blk G ∧ Hid (scanSorted ltN G b i = scanSorted ltN G b i0)) ∧ Kp [blk] w wr) (fun x _ => b - (intOf x).toNat)
      case atStart => exact ⟨i0, Nat.le_refl _, by omega, rfl, ⟨HO.out.1, Lib.hid rfl⟩, HO.out.2⟩
      case round =>
        obtain ⟨i, hi0, hib, rfl, ⟨hIn, hE⟩, hK⟩ := hrel
        obtain ⟨im, him⟩ : ∃ im : Nat, i - 1 = im := ⟨_, rfl⟩
        have hwi : IntKind.i64.wrap ((i : Int) + 1) = (i : Int) + 1 := by rw [IntKind.wrap_i64]; omega
        have hwm : IntKind.i64.wrap ((i : Int) - 1) = (im : Int) := by rw [IntKind.wrap_i64]; omega
        have himb : im < n ∧ im < i ∧ i ≤ im + 1 := by omega
        have HIM := Lib.hid him
        clear him
        by_cases hlt : i < b
        · have hdd : decide ((i : Int) < (b : Int)) = true := by rw [decide_eq_true_eq]; omega
          obtain ⟨vx, vy, bb0, qc1, qf1, qc2, qf2, qi1, qi2, hcl0, HB0⟩ := u32_less (X := i) (Y := im) hIn HG.out.1 (by omega) himb.1
          have HCl := Lib.hid hcl0
          have HR0 := Lib.hid hIn
          clear hcl0
          have HK := Lib.hid hK
          clear hIn hK
          go_wp2_with fail
          go_quiet (first | (go_at_call 216; exact Calls.quiet_of_same (HCl.out _)))
          obtain ⟨w3, hww⟩ : ∃ W, World.drewN wr nq = W := ⟨_, rfl⟩
          rw [hww]
          have hI3 : U32 w3 blk G := hww ▸ u32_drewN HR0.out
          have b3 : RowKit.Below (World.heap wr).size wr w3 := hww ▸ below_drewN (RowKit.Below.refl _ _) _
          clear hww qc1 qf1 qc2 qf2 qi1 qi2
          have HY := Lib.hid (And.intro hI3 (HK.out.old b3))
          obtain ⟨bb, hbb⟩ : ∃ B, bb0 = B := ⟨_, rfl⟩
          rw [hbb]
          have HB := Lib.hid (HB0.out.trans hbb)
          clear hI3 b3 hbb HK
          cases bb
          · go_wp2_with fail
            go_roundw
            case rel => exact ⟨i + 1, by omega, by omega, by go_num, ⟨HY.out.1, Lib.hid (by rw [← hE.out, scanSorted_step ltN G b i hlt (by rw [HIM.out]; exact HB.out)])⟩, HY.out.2⟩
            case measure => simp [intOf]; omega
          · have hSc : Hid (scanSorted ltN G b i0 = i) := Lib.hid (by rw [← hE.out]; exact scanSorted_end ltN G b i (fun _ => by rw [HIM.out]; exact HB.out))
            have hne : ((i : Int) == (b : Int)) = false := by rw [beq_eq_false_iff_ne]; omega
            have hneI : ¬ (i : Int) = (b : Int) := by omega
            have hneN : ¬ i = b := by omega
            clear hE HB
            by_cases h50 : l < 50
            · have d50 : decide ((l : Int) < 50) = true := by rw [decide_eq_true_eq]; omega
              go_wp2_with fail
              refine bodyPost_ret (v := .bool false) (by simp [results, Tryz.results215, go_sem]) rfl ⟨⟨G, false, ?_, rfl, HY.out.1⟩, HY.out.2⟩
              rw [← HG.out.2.1]
              exact partialIns_false ltN a b s i0 i G hSc.out hneN (by rw [HE.out.2]; exact h50)
            · have d50 : decide ((l : Int) < 50) = false := by rw [decide_eq_false_iff_not]; omega
              obtain ⟨sx, sy, qd1, qg1, qd2, qg2, qj1, qj2, qd3, HS0⟩ := u32_swapF (X := i) (Y := im) HY.out.1 HG.out.1 (by omega) himb.1
              have HF := Lib.hid HY.out.2
              obtain ⟨ia, hia⟩ : ∃ ia : Nat, i - a = ia := ⟨_, rfl⟩
              obtain ⟨bi, hbi⟩ : ∃ bi : Nat, b - i = bi := ⟨_, rfl⟩
              have hw3 : IntKind.i64.wrap ((i : Int) - (a : Int)) = (ia : Int) := by rw [IntKind.wrap_i64]; omega
              have hw4 : IntKind.i64.wrap ((b : Int) - (i : Int)) = (bi : Int) := by rw [IntKind.wrap_i64]; omega
              have HAB := Lib.hid (And.intro hia hbi)
              clear hia hbi HY
              go_wp2_with fail
              go_region
              obtain ⟨w4, hww⟩ : ∃ W, ((World.setCell w3 ⟨blk, i, none⟩ (.int .u32 (sy : Nat))).setCell ⟨blk, im, none⟩ (.int .u32 (sx : Nat))).drew = W := ⟨_, rfl⟩
              rw [hww]
              have h4 : U32 w4 blk (swp G i im) := hww ▸ HS0.out.1
              have k4 : Kp [blk] w3 w4 := hww ▸ HS0.out.2
              clear hww qd1 qg1 qd2 qg2 qj1 qj2 qd3
              obtain ⟨G1, hG1⟩ : ∃ G1, swp G i im = G1 := ⟨_, rfl⟩
              rw [hG1] at h4
              have H4 := Lib.hid (And.intro h4 (And.intro (HF.out.trans k4) (And.intro (show G1.size = n by rw [← hG1]; exact (swp_size _ _ _).trans HG.out.1) hG1)))
              clear h4 k4 HF hG1
              by_cases ha2 : 2 ≤ ia
              · have da2 : decide ((2 : Int) ≤ (ia : Int)) = true := by rw [decide_eq_true_eq]; omega
                have da2N : decide (2 ≤ ia) = true := by rw [decide_eq_true_eq]; omega
                go_wp2_with fail
                go_loopw [9] (fun x wr => ∃ (j : Nat) (F : Array Nat), j ≤ im ∧ x = .int .i64 j ∧ (U32 wr blk F ∧ Hid (F.size = n ∧ shiftDown ltN j F = shiftDown ltN im G1)) ∧ Kp [blk] w wr) (fun x _ => (intOf x).toNat)
                case atStart => exact ⟨im, G1, Nat.le_refl _, rfl, ⟨H4.out.1, Lib.hid ⟨H4.out.2.2.1, rfl⟩⟩, H4.out.2.1⟩
                case round =>
                  obtain ⟨j, F, hjim, rfl, ⟨hIn, hF⟩, hK⟩ := hrel
                  by_cases hj1 : 1 ≤ j
                  · have hdj : decide ((1 : Int) ≤ (j : Int)) = true := by rw [decide_eq_true_eq]; omega
                    have hdjN : decide (1 ≤ j) = true := by rw [decide_eq_true_eq]; omega
                    obtain ⟨jm, hjm⟩ : ∃ jm : Nat, j - 1 = jm := ⟨_, rfl⟩
                    have hwj : IntKind.i64.wrap ((j : Int) - 1) = (jm : Int) := by rw [IntKind.wrap_i64]; omega
                    have hjb : j < n ∧ jm < n ∧ jm < j := by omega
                    have HJM := Lib.hid hjm
                    clear hjm
                    obtain ⟨vx, vy, bb0, qc1, qf1, qc2, qf2, qi1, qi2, hcl0, HB0⟩ := u32_less (X := j) (Y := jm) hIn hF.out.1 hjb.1 hjb.2.1
                    have HCl := Lib.hid hcl0
                    have HR0 := Lib.hid hIn
                    clear hcl0
                    have HK := Lib.hid hK
                    clear hIn hK
                    go_wp2_with fail
                    go_quiet (first | (go_at_call 216; exact Calls.quiet_of_same (HCl.out _)))
                    obtain ⟨w5, hww⟩ : ∃ W, World.drewN wr nq = W := ⟨_, rfl⟩
                    rw [hww]
                    have hI5 : U32 w5 blk F := hww ▸ u32_drewN HR0.out
                    have b5 : RowKit.Below (World.heap wr).size wr w5 := hww ▸ below_drewN (RowKit.Below.refl _ _) _
                    clear hww qc1 qf1 qc2 qf2 qi1 qi2
                    have HY := Lib.hid (And.intro hI5 (HK.out.old b5))
                    obtain ⟨bb, hbb⟩ : ∃ B, bb0 = B := ⟨_, rfl⟩
                    rw [hbb]
                    have HB := Lib.hid (HB0.out.trans hbb)
                    clear hI5 b5 hbb HK
                    cases bb
                    · have E1 : Hid ((if i - a ≥ 2 then shiftDown ltN (i - 1) (swp G i (i - 1)) else swp G i (i - 1)) = F) := Lib.hid (by
                        rw [HAB.out.1, if_pos ha2, HIM.out, H4.out.2.2.2, ← hF.out.2]
                        exact shiftDown_end ltN F j (fun _ => by rw [HJM.out]; exact HB.out))
                      have HZ := Lib.hid (And.intro HY.out.1 (And.intro HY.out.2 hF.out.1))
                      clear HB HY hwj hdj hdjN hjb HJM
                      by_cases hb2 : 2 ≤ bi
                      · have db2 : decide ((2 : Int) ≤ (bi : Int)) = true := by rw [decide_eq_true_eq]; omega
                        have db2N : decide (2 ≤ bi) = true := by rw [decide_eq_true_eq]; omega
                        go_wp2_with fail
                        go_loopw [10] (fun x wr => ∃ (j : Nat) (F2 : Array Nat), i < j ∧ j ≤ b ∧ x = .int .i64 j ∧ (U32 wr blk F2 ∧ Hid (F2.size = n ∧ shiftUp ltN b j F2 = shiftUp ltN b (i + 1) F)) ∧ Kp [blk] w wr) (fun x _ => b - (intOf x).toNat)
                        case atStart => exact ⟨i + 1, F, by omega, by omega, by go_num, ⟨HZ.out.1, Lib.hid ⟨HZ.out.2.2, rfl⟩⟩, HZ.out.2.1⟩
                        case round =>
                          obtain ⟨j, F2, hij, hjb, rfl, ⟨hIn, hF2⟩, hK⟩ := hrel
                          obtain ⟨jm, hjm⟩ : ∃ jm : Nat, j - 1 = jm := ⟨_, rfl⟩
                          have hwj : IntKind.i64.wrap ((j : Int) + 1) = (j : Int) + 1 := by rw [IntKind.wrap_i64]; omega
                          have hwjm : IntKind.i64.wrap ((j : Int) - 1) = (jm : Int) := by rw [IntKind.wrap_i64]; omega
                          have hjmb : jm < n := by omega
                          have HJM := Lib.hid hjm
                          clear hjm
                          by_cases hjlt : j < b
                          · have hdj : decide ((j : Int) < (b : Int)) = true := by rw [decide_eq_true_eq]; omega
                            obtain ⟨vx, vy, bb0, qc1, qf1, qc2, qf2, qi1, qi2, hcl0, HB0⟩ := u32_less (X := j) (Y := jm) hIn hF2.out.1 (by omega) hjmb
                            have HCl := Lib.hid hcl0
                            have HR0 := Lib.hid hIn
                            clear hcl0
                            have HK := Lib.hid hK
                            clear hIn hK
                            go_wp2_with fail
                            go_quiet (first | (go_at_call 216; exact Calls.quiet_of_same (HCl.out _)))
                            obtain ⟨w7, hww⟩ : ∃ W, World.drewN wr nq = W := ⟨_, rfl⟩
                            rw [hww]
                            have hI7 : U32 w7 blk F2 := hww ▸ u32_drewN HR0.out
                            have b7 : RowKit.Below (World.heap wr).size wr w7 := hww ▸ below_drewN (RowKit.Below.refl _ _) _
                            clear hww qc1 qf1 qc2 qf2 qi1 qi2
                            have HV0 := Lib.hid (And.intro hI7 (HK.out.old b7))
                            obtain ⟨bb, hbb⟩ : ∃ B, bb0 = B := ⟨_, rfl⟩
                            rw [hbb]
                            have HB := Lib.hid (HB0.out.trans hbb)
                            clear hI7 b7 hbb HK
                            cases bb
                            · have E2 : Hid ((if b - i ≥ 2 then shiftUp ltN b (i + 1) F else F) = F2) := Lib.hid (by
                                rw [HAB.out.2, if_pos hb2, ← hF2.out.2]
                                exact shiftUp_end ltN F2 b j (fun _ => by rw [HJM.out]; exact HB.out))
                              have HV := Lib.hid (And.intro HV0.out.1 (And.intro HV0.out.2 hF2.out.1))
                              go_wp2_with fail
                              go_roundw
                              case rel => exact ⟨i, t + 1, F2, by omega, by omega, by omega, rfl, by go_num, ⟨HV.out.1, Lib.hid ⟨HV.out.2.2, by
                                have hs := HG.out.2.2
                                rw [← HG.out.2.1, show 5 - (t + 1) = s by omega]
                                exact (partialIns_go ltN a b s i0 i G F F2 hSc.out hneN (by rw [HE.out.2]; exact h50) E1.out E2.out).symm⟩⟩, HV.out.2.1⟩
                              case measure => simp [intOf]; omega
                            · obtain ⟨sx, sy, qd1, qg1, qd2, qg2, qj1, qj2, qd3, HS0⟩ := u32_swapF (X := j) (Y := jm) HV0.out.1 hF2.out.1 (by omega) hjmb
                              go_wp2_with fail
                              go_region
                              obtain ⟨w8, hww⟩ : ∃ W, ((World.setCell w7 ⟨blk, j, none⟩ (.int .u32 (sy : Nat))).setCell ⟨blk, jm, none⟩ (.int .u32 (sx : Nat))).drew = W := ⟨_, rfl⟩
                              rw [hww]
                              have h8 : U32 w8 blk (swp F2 j jm) := hww ▸ HS0.out.1
                              have k8 : Kp [blk] w7 w8 := hww ▸ HS0.out.2
                              clear hww qd1 qg1 qd2 qg2 qj1 qj2 qd3
                              have H8 := Lib.hid (And.intro h8 (HV0.out.2.trans k8))
                              clear h8 k8
                              go_wp2_with fail
                              go_roundw
                              case rel => exact ⟨j + 1, _, by omega, by omega, by go_num, ⟨H8.out.1, Lib.hid ⟨(swp_size _ _ _).trans hF2.out.1, by rw [← hF2.out.2, shiftUp_step ltN F2 b j hjlt (by rw [HJM.out]; exact HB.out), HJM.out]⟩⟩, H8.out.2⟩
                              case measure => simp [intOf]; omega
                          · have hdj : decide ((j : Int) < (b : Int)) = false := by rw [decide_eq_false_iff_not]; omega
                            have E2 : Hid ((if b - i ≥ 2 then shiftUp ltN b (i + 1) F else F) = F2) := Lib.hid (by
                              rw [HAB.out.2, if_pos hb2, ← hF2.out.2]
                              exact shiftUp_end ltN F2 b j (fun h => absurd h hjlt))
                            have HV := Lib.hid (And.intro hIn (And.intro hK hF2.out.1))
                            clear hIn hK
                            go_wp2_with fail
                            go_roundw
                            case rel => exact ⟨i, t + 1, F2, by omega, by omega, by omega, rfl, by go_num, ⟨HV.out.1, Lib.hid ⟨HV.out.2.2, by
                              have hs := HG.out.2.2
                              rw [← HG.out.2.1, show 5 - (t + 1) = s by omega]
                              exact (partialIns_go ltN a b s i0 i G F F2 hSc.out hneN (by rw [HE.out.2]; exact h50) E1.out E2.out).symm⟩⟩, HV.out.2.1⟩
                            case measure => simp [intOf]; omega
                      · have db2 : decide ((2 : Int) ≤ (bi : Int)) = false := by rw [decide_eq_false_iff_not]; omega
                        have db2N : decide (2 ≤ bi) = false := by rw [decide_eq_false_iff_not]; omega
                        have E2 : Hid ((if b - i ≥ 2 then shiftUp ltN b (i + 1) F else F) = F) := Lib.hid (by rw [HAB.out.2, if_neg hb2])
                        have HV := Lib.hid HZ.out
                        go_wp2_with fail
                        go_roundw
                        case rel => exact ⟨i, t + 1, F, by omega, by omega, by omega, rfl, by go_num, ⟨HV.out.1, Lib.hid ⟨HV.out.2.2, by
                          have hs := HG.out.2.2
                          rw [← HG.out.2.1, show 5 - (t + 1) = s by omega]
                          exact (partialIns_go ltN a b s i0 i G F F hSc.out hneN (by rw [HE.out.2]; exact h50) E1.out E2.out).symm⟩⟩, HV.out.2.1⟩
                        case measure => simp [intOf]; omega
                    · obtain ⟨sx, sy, qd1, qg1, qd2, qg2, qj1, qj2, qd3, HS0⟩ := u32_swapF (X := j) (Y := jm) HY.out.1 hF.out.1 hjb.1 hjb.2.1
                      go_wp2_with fail
                      go_region
                      obtain ⟨w6, hww⟩ : ∃ W, ((World.setCell w5 ⟨blk, j, none⟩ (.int .u32 (sy : Nat))).setCell ⟨blk, jm, none⟩ (.int .u32 (sx : Nat))).drew = W := ⟨_, rfl⟩
                      rw [hww]
                      have h6 : U32 w6 blk (swp F j jm) := hww ▸ HS0.out.1
                      have k6 : Kp [blk] w5 w6 := hww ▸ HS0.out.2
                      clear hww qd1 qg1 qd2 qg2 qj1 qj2 qd3
                      have H6 := Lib.hid (And.intro h6 (HY.out.2.trans k6))
                      clear h6 k6
                      go_wp2_with fail
                      go_roundw
                      case rel => exact ⟨jm, _, by omega, rfl, ⟨H6.out.1, Lib.hid ⟨(swp_size _ _ _).trans hF.out.1, by rw [← hF.out.2, shiftDown_step ltN F j hj1 (by rw [HJM.out]; exact HB.out), HJM.out]⟩⟩, H6.out.2⟩
                      case measure => simp [intOf]; omega
                  · have hdj : decide ((1 : Int) ≤ (j : Int)) = false := by rw [decide_eq_false_iff_not]; omega
                    have hdjN : decide (1 ≤ j) = false := by rw [decide_eq_false_iff_not]; omega
                    have E1 : Hid ((if i - a ≥ 2 then shiftDown ltN (i - 1) (swp G i (i - 1)) else swp G i (i - 1)) = F) := Lib.hid (by
                      rw [HAB.out.1, if_pos ha2, HIM.out, H4.out.2.2.2, ← hF.out.2]
                      exact shiftDown_end ltN F j (fun h => absurd h hj1))
                    have HZ := Lib.hid (And.intro hIn (And.intro hK hF.out.1))
                    clear hIn hK
                    by_cases hb2 : 2 ≤ bi
                    · have db2 : decide ((2 : Int) ≤ (bi : Int)) = true := by rw [decide_eq_true_eq]; omega
                      have db2N : decide (2 ≤ bi) = true := by rw [decide_eq_true_eq]; omega
                      go_wp2_with fail
                      go_loopw [10] (fun x wr => ∃ (j : Nat) (F2 : Array Nat), i < j ∧ j ≤ b ∧ x = .int .i64 j ∧ (U32 wr blk F2 ∧ Hid (F2.size = n ∧ shiftUp ltN b j F2 = shiftUp ltN b (i + 1) F)) ∧ Kp [blk] w wr) (fun x _ => b - (intOf x).toNat)
                      case atStart => exact ⟨i + 1, F, by omega, by omega, by go_num, ⟨HZ.out.1, Lib.hid ⟨HZ.out.2.2, rfl⟩⟩, HZ.out.2.1⟩
                      case round =>
                        obtain ⟨j, F2, hij, hjb, rfl, ⟨hIn, hF2⟩, hK⟩ := hrel
                        obtain ⟨jm, hjm⟩ : ∃ jm : Nat, j - 1 = jm := ⟨_, rfl⟩
                        have hwj : IntKind.i64.wrap ((j : Int) + 1) = (j : Int) + 1 := by rw [IntKind.wrap_i64]; omega
                        have hwjm : IntKind.i64.wrap ((j : Int) - 1) = (jm : Int) := by rw [IntKind.wrap_i64]; omega
                        have hjmb : jm < n := by omega
                        have HJM := Lib.hid hjm
                        clear hjm
                        by_cases hjlt : j < b
                        · have hdj : decide ((j : Int) < (b : Int)) = true := by rw [decide_eq_true_eq]; omega
                          obtain ⟨vx, vy, bb0, qc1, qf1, qc2, qf2, qi1, qi2, hcl0, HB0⟩ := u32_less (X := j) (Y := jm) hIn hF2.out.1 (by omega) hjmb
                          have HCl := Lib.hid hcl0
                          have HR0 := Lib.hid hIn
                          clear hcl0
                          have HK := Lib.hid hK
                          clear hIn hK
                          go_wp2_with fail
                          go_quiet (first | (go_at_call 216; exact Calls.quiet_of_same (HCl.out _)))
                          obtain ⟨w7, hww⟩ : ∃ W, World.drewN wr nq = W := ⟨_, rfl⟩
                          rw [hww]
                          have hI7 : U32 w7 blk F2 := hww ▸ u32_drewN HR0.out
                          have b7 : RowKit.Below (World.heap wr).size wr w7 := hww ▸ below_drewN (RowKit.Below.refl _ _) _
                          clear hww qc1 qf1 qc2 qf2 qi1 qi2
                          have HV0 := Lib.hid (And.intro hI7 (HK.out.old b7))
                          obtain ⟨bb, hbb⟩ : ∃ B, bb0 = B := ⟨_, rfl⟩
                          rw [hbb]
                          have HB := Lib.hid (HB0.out.trans hbb)
                          clear hI7 b7 hbb HK
                          cases bb
                          · have E2 : Hid ((if b - i ≥ 2 then shiftUp ltN b (i + 1) F else F) = F2) := Lib.hid (by
                              rw [HAB.out.2, if_pos hb2, ← hF2.out.2]
                              exact shiftUp_end ltN F2 b j (fun _ => by rw [HJM.out]; exact HB.out))
                            have HV := Lib.hid (And.intro HV0.out.1 (And.intro HV0.out.2 hF2.out.1))
                            go_wp2_with fail
                            go_roundw
                            case rel => exact ⟨i, t + 1, F2, by omega, by omega, by omega, rfl, by go_num, ⟨HV.out.1, Lib.hid ⟨HV.out.2.2, by
                              have hs := HG.out.2.2
                              rw [← HG.out.2.1, show 5 - (t + 1) = s by omega]
                              exact (partialIns_go ltN a b s i0 i G F F2 hSc.out hneN (by rw [HE.out.2]; exact h50) E1.out E2.out).symm⟩⟩, HV.out.2.1⟩
                            case measure => simp [intOf]; omega
                          · obtain ⟨sx, sy, qd1, qg1, qd2, qg2, qj1, qj2, qd3, HS0⟩ := u32_swapF (X := j) (Y := jm) HV0.out.1 hF2.out.1 (by omega) hjmb
                            go_wp2_with fail
                            go_region
                            obtain ⟨w8, hww⟩ : ∃ W, ((World.setCell w7 ⟨blk, j, none⟩ (.int .u32 (sy : Nat))).setCell ⟨blk, jm, none⟩ (.int .u32 (sx : Nat))).drew = W := ⟨_, rfl⟩
                            rw [hww]
                            have h8 : U32 w8 blk (swp F2 j jm) := hww ▸ HS0.out.1
                            have k8 : Kp [blk] w7 w8 := hww ▸ HS0.out.2
                            clear hww qd1 qg1 qd2 qg2 qj1 qj2 qd3
                            have H8 := Lib.hid (And.intro h8 (HV0.out.2.trans k8))
                            clear h8 k8
                            go_wp2_with fail
                            go_roundw
                            case rel => exact ⟨j + 1, _, by omega, by omega, by go_num, ⟨H8.out.1, Lib.hid ⟨(swp_size _ _ _).trans hF2.out.1, by rw [← hF2.out.2, shiftUp_step ltN F2 b j hjlt (by rw [HJM.out]; exact HB.out), HJM.out]⟩⟩, H8.out.2⟩
                            case measure => simp [intOf]; omega
                        · have hdj : decide ((j : Int) < (b : Int)) = false := by rw [decide_eq_false_iff_not]; omega
                          have E2 : Hid ((if b - i ≥ 2 then shiftUp ltN b (i + 1) F else F) = F2) := Lib.hid (by
                            rw [HAB.out.2, if_pos hb2, ← hF2.out.2]
                            exact shiftUp_end ltN F2 b j (fun h => absurd h hjlt))
                          have HV := Lib.hid (And.intro hIn (And.intro hK hF2.out.1))
                          clear hIn hK
                          go_wp2_with fail
                          go_roundw
                          case rel => exact ⟨i, t + 1, F2, by omega, by omega, by omega, rfl, by go_num, ⟨HV.out.1, Lib.hid ⟨HV.out.2.2, by
                            have hs := HG.out.2.2
                            rw [← HG.out.2.1, show 5 - (t + 1) = s by omega]
                            exact (partialIns_go ltN a b s i0 i G F F2 hSc.out hneN (by rw [HE.out.2]; exact h50) E1.out E2.out).symm⟩⟩, HV.out.2.1⟩
                          case measure => simp [intOf]; omega
                    · have db2 : decide ((2 : Int) ≤ (bi : Int)) = false := by rw [decide_eq_false_iff_not]; omega
                      have db2N : decide (2 ≤ bi) = false := by rw [decide_eq_false_iff_not]; omega
                      have E2 : Hid ((if b - i ≥ 2 then shiftUp ltN b (i + 1) F else F) = F) := Lib.hid (by rw [HAB.out.2, if_neg hb2])
                      have HV := Lib.hid HZ.out
                      go_wp2_with fail
                      go_roundw
                      case rel => exact ⟨i, t + 1, F, by omega, by omega, by omega, rfl, by go_num, ⟨HV.out.1, Lib.hid ⟨HV.out.2.2, by
                        have hs := HG.out.2.2
                        rw [← HG.out.2.1, show 5 - (t + 1) = s by omega]
                        exact (partialIns_go ltN a b s i0 i G F F hSc.out hneN (by rw [HE.out.2]; exact h50) E1.out E2.out).symm⟩⟩, HV.out.2.1⟩
                      case measure => simp [intOf]; omega
              · have da2 : decide ((2 : Int) ≤ (ia : Int)) = false := by rw [decide_eq_false_iff_not]; omega
                have da2N : decide (2 ≤ ia) = false := by rw [decide_eq_false_iff_not]; omega
                obtain ⟨F, hFe⟩ : ∃ F, G1 = F := ⟨_, rfl⟩
                have E1 : Hid ((if i - a ≥ 2 then shiftDown ltN (i - 1) (swp G i (i - 1)) else swp G i (i - 1)) = F) := Lib.hid (by rw [HAB.out.1, if_neg ha2, HIM.out, H4.out.2.2.2]; exact hFe)
                have HZ : Hid (U32 w4 blk F ∧ Kp [blk] w w4 ∧ F.size = n) := Lib.hid (by rw [← hFe]; exact ⟨H4.out.1, H4.out.2.1, H4.out.2.2.1⟩)
                clear hFe
                by_cases hb2 : 2 ≤ bi
                · have db2 : decide ((2 : Int) ≤ (bi : Int)) = true := by rw [decide_eq_true_eq]; omega
                  have db2N : decide (2 ≤ bi) = true := by rw [decide_eq_true_eq]; omega
                  go_wp2_with fail
                  go_loopw [10] (fun x wr => ∃ (j : Nat) (F2 : Array Nat), i < j ∧ j ≤ b ∧ x = .int .i64 j ∧ (U32 wr blk F2 ∧ Hid (F2.size = n ∧ shiftUp ltN b j F2 = shiftUp ltN b (i + 1) F)) ∧ Kp [blk] w wr) (fun x _ => b - (intOf x).toNat)
                  case atStart => exact ⟨i + 1, F, by omega, by omega, by go_num, ⟨HZ.out.1, Lib.hid ⟨HZ.out.2.2, rfl⟩⟩, HZ.out.2.1⟩
                  case round =>
                    obtain ⟨j, F2, hij, hjb, rfl, ⟨hIn, hF2⟩, hK⟩ := hrel
                    obtain ⟨jm, hjm⟩ : ∃ jm : Nat, j - 1 = jm := ⟨_, rfl⟩
                    have hwj : IntKind.i64.wrap ((j : Int) + 1) = (j : Int) + 1 := by rw [IntKind.wrap_i64]; omega
                    have hwjm : IntKind.i64.wrap ((j : Int) - 1) = (jm : Int) := by rw [IntKind.wrap_i64]; omega
                    have hjmb : jm < n := by omega
                    have HJM := Lib.hid hjm
                    clear hjm
                    by_cases hjlt : j < b
                    · have hdj : decide ((j : Int) < (b : Int)) = true := by rw [decide_eq_true_eq]; omega
                      obtain ⟨vx, vy, bb0, qc1, qf1, qc2, qf2, qi1, qi2, hcl0, HB0⟩ := u32_less (X := j) (Y := jm) hIn hF2.out.1 (by omega) hjmb
                      have HCl := Lib.hid hcl0
                      have HR0 := Lib.hid hIn
                      clear hcl0
                      have HK := Lib.hid hK
                      clear hIn hK
                      go_wp2_with fail
                      go_quiet (first | (go_at_call 216; exact Calls.quiet_of_same (HCl.out _)))
                      obtain ⟨w7, hww⟩ : ∃ W, World.drewN wr nq = W := ⟨_, rfl⟩
                      rw [hww]
                      have hI7 : U32 w7 blk F2 := hww ▸ u32_drewN HR0.out
                      have b7 : RowKit.Below (World.heap wr).size wr w7 := hww ▸ below_drewN (RowKit.Below.refl _ _) _
                      clear hww qc1 qf1 qc2 qf2 qi1 qi2
                      have HV0 := Lib.hid (And.intro hI7 (HK.out.old b7))
                      obtain ⟨bb, hbb⟩ : ∃ B, bb0 = B := ⟨_, rfl⟩
                      rw [hbb]
                      have HB := Lib.hid (HB0.out.trans hbb)
                      clear hI7 b7 hbb HK
                      cases bb
                      · have E2 : Hid ((if b - i ≥ 2 then shiftUp ltN b (i + 1) F else F) = F2) := Lib.hid (by
                          rw [HAB.out.2, if_pos hb2, ← hF2.out.2]
                          exact shiftUp_end ltN F2 b j (fun _ => by rw [HJM.out]; exact HB.out))
                        have HV := Lib.hid (And.intro HV0.out.1 (And.intro HV0.out.2 hF2.out.1))
                        go_wp2_with fail
                        go_roundw
                        case rel => exact ⟨i, t + 1, F2, by omega, by omega, by omega, rfl, by go_num, ⟨HV.out.1, Lib.hid ⟨HV.out.2.2, by
                          have hs := HG.out.2.2
                          rw [← HG.out.2.1, show 5 - (t + 1) = s by omega]
                          exact (partialIns_go ltN a b s i0 i G F F2 hSc.out hneN (by rw [HE.out.2]; exact h50) E1.out E2.out).symm⟩⟩, HV.out.2.1⟩
                        case measure => simp [intOf]; omega
                      · obtain ⟨sx, sy, qd1, qg1, qd2, qg2, qj1, qj2, qd3, HS0⟩ := u32_swapF (X := j) (Y := jm) HV0.out.1 hF2.out.1 (by omega) hjmb
                        go_wp2_with fail
                        go_region
                        obtain ⟨w8, hww⟩ : ∃ W, ((World.setCell w7 ⟨blk, j, none⟩ (.int .u32 (sy : Nat))).setCell ⟨blk, jm, none⟩ (.int .u32 (sx : Nat))).drew = W := ⟨_, rfl⟩
                        rw [hww]
                        have h8 : U32 w8 blk (swp F2 j jm) := hww ▸ HS0.out.1
                        have k8 : Kp [blk] w7 w8 := hww ▸ HS0.out.2
                        clear hww qd1 qg1 qd2 qg2 qj1 qj2 qd3
                        have H8 := Lib.hid (And.intro h8 (HV0.out.2.trans k8))
                        clear h8 k8
                        go_wp2_with fail
                        go_roundw
                        case rel => exact ⟨j + 1, _, by omega, by omega, by go_num, ⟨H8.out.1, Lib.hid ⟨(swp_size _ _ _).trans hF2.out.1, by rw [← hF2.out.2, shiftUp_step ltN F2 b j hjlt (by rw [HJM.out]; exact HB.out), HJM.out]⟩⟩, H8.out.2⟩
                        case measure => simp [intOf]; omega
                    · have hdj : decide ((j : Int) < (b : Int)) = false := by rw [decide_eq_false_iff_not]; omega
                      have E2 : Hid ((if b - i ≥ 2 then shiftUp ltN b (i + 1) F else F) = F2) := Lib.hid (by
                        rw [HAB.out.2, if_pos hb2, ← hF2.out.2]
                        exact shiftUp_end ltN F2 b j (fun h => absurd h hjlt))
                      have HV := Lib.hid (And.intro hIn (And.intro hK hF2.out.1))
                      clear hIn hK
                      go_wp2_with fail
                      go_roundw
                      case rel => exact ⟨i, t + 1, F2, by omega, by omega, by omega, rfl, by go_num, ⟨HV.out.1, Lib.hid ⟨HV.out.2.2, by
                        have hs := HG.out.2.2
                        rw [← HG.out.2.1, show 5 - (t + 1) = s by omega]
                        exact (partialIns_go ltN a b s i0 i G F F2 hSc.out hneN (by rw [HE.out.2]; exact h50) E1.out E2.out).symm⟩⟩, HV.out.2.1⟩
                      case measure => simp [intOf]; omega
                · have db2 : decide ((2 : Int) ≤ (bi : Int)) = false := by rw [decide_eq_false_iff_not]; omega
                  have db2N : decide (2 ≤ bi) = false := by rw [decide_eq_false_iff_not]; omega
                  have E2 : Hid ((if b - i ≥ 2 then shiftUp ltN b (i + 1) F else F) = F) := Lib.hid (by rw [HAB.out.2, if_neg hb2])
                  have HV := Lib.hid HZ.out
                  go_wp2_with fail
                  go_roundw
                  case rel => exact ⟨i, t + 1, F, by omega, by omega, by omega, rfl, by go_num, ⟨HV.out.1, Lib.hid ⟨HV.out.2.2, by
                    have hs := HG.out.2.2
                    rw [← HG.out.2.1, show 5 - (t + 1) = s by omega]
                    exact (partialIns_go ltN a b s i0 i G F F hSc.out hneN (by rw [HE.out.2]; exact h50) E1.out E2.out).symm⟩⟩, HV.out.2.1⟩
                  case measure => simp [intOf]; omega
        · have hdd : decide ((i : Int) < (b : Int)) = false := by rw [decide_eq_false_iff_not]; omega
          have hieq : i = b := by omega
          have HY0 := Lib.hid (And.intro hIn hK)
          have hSc : Hid (scanSorted ltN G b i0 = b) := Lib.hid (by rw [← hE.out, scanSorted_end ltN G b i (fun h => absurd h hlt)]; exact hieq)
          clear hIn hK hE
          go_wp2_with fail
          go_quiet (fail)
          obtain ⟨wq, hwq⟩ : ∃ W, World.drewN wr nq = W := ⟨_, rfl⟩
          rw [hwq]
          have HY := Lib.hid (And.intro (u32_q HY0.out.1 hwq) (kp_q HY0.out.2 hwq))
          clear hwq
          subst hieq
          go_wp2_with fail
          refine bodyPost_ret (v := .bool true) (by simp [results, Tryz.results215, go_sem]) rfl ⟨⟨G, true, ?_, rfl, HY.out.1⟩, HY.out.2⟩
          rw [← HG.out.2.1]
          exact partialIns_true ltN a i s i0 G hSc.out
    · have hdt : decide ((t : Int) < 5) = false := by rw [decide_eq_false_iff_not]; omega
      have HY := Lib.hid (And.intro hIn hK)
      clear hIn hK
      go_wp2_with fail
      refine bodyPost_ret (v := .bool false) (by simp [results, Tryz.results215, go_sem]) rfl ⟨⟨G, false, ?_, rfl, HY.out.1⟩, HY.out.2⟩
      rw [← hG.out.2, show 5 - t = 0 by omega]
      rfl
end Go.Proofs.YtcljffldbnoljaaGreatDoor
