/-
  sort.partialInsertionSort over index.recordSet, whatever order it sorts by: what it answers and the very row that it leaves. Conditions: as each contract says.
-/
import Derived.Test.YtcljffldbnoljaaGreatDoorJJc
namespace Go.Proofs.YtcljffldbnoljaaGreatDoor
open Go.RowKit Go.Sort
variable {α : Type} [Inhabited α]

theorem scanSorted_step (lt : α → α → Bool) (d : Array α) (b i : Nat) (h : i < b) (hl : lt d[i]! d[i - 1]! = false) : scanSorted lt d b i = scanSorted lt d b (i + 1) := by
  conv => lhs; unfold scanSorted
  rw [if_pos (by simp [h, hl])]
theorem scanSorted_end (lt : α → α → Bool) (d : Array α) (b i : Nat) (h : i < b → lt d[i]! d[i - 1]! = true) : scanSorted lt d b i = i := by
  unfold scanSorted
  rw [if_neg]
  intro hc
  simp only [Bool.and_eq_true, decide_eq_true_eq, Bool.not_eq_true'] at hc
  have := h hc.1
  rw [hc.2] at this
  cases this
theorem shiftDown_step (lt : α → α → Bool) (d : Array α) (j : Nat) (h : 0 < j) (hl : lt d[j]! d[j - 1]! = true) : shiftDown lt j d = shiftDown lt (j - 1) (swp d j (j - 1)) := by
  cases j with
  | zero => omega
  | succ j => rw [shiftDown, show lt d[j + 1]! d[j]! = true from hl]; rfl
theorem shiftDown_end (lt : α → α → Bool) (d : Array α) (j : Nat) (h : 0 < j → lt d[j]! d[j - 1]! = false) : shiftDown lt j d = d := by
  cases j with
  | zero => rfl
  | succ j =>
    have := h (by omega)
    rw [shiftDown, show lt d[j + 1]! d[j]! = false from this]; rfl
theorem shiftUp_step (lt : α → α → Bool) (d : Array α) (b j : Nat) (h : j < b) (hl : lt d[j]! d[j - 1]! = true) : shiftUp lt b j d = shiftUp lt b (j + 1) (swp d j (j - 1)) := by
  conv => lhs; unfold shiftUp
  rw [if_pos h, hl]; rfl
theorem shiftUp_end (lt : α → α → Bool) (d : Array α) (b j : Nat) (h : j < b → lt d[j]! d[j - 1]! = false) : shiftUp lt b j d = d := by
  unfold shiftUp
  by_cases hj : j < b
  · rw [if_pos hj, h hj]; rfl
  · rw [if_neg hj]
theorem partialIns_true (lt : α → α → Bool) (a b s i : Nat) (d : Array α) (h1 : scanSorted lt d b i = b) : partialIns lt a b (s + 1) i d = (d, true) := by
  rw [partialIns, h1]; simp
theorem partialIns_false (lt : α → α → Bool) (a b s i i2 : Nat) (d : Array α) (h1 : scanSorted lt d b i = i2) (h2 : i2 ≠ b) (h3 : b - a < 50) : partialIns lt a b (s + 1) i d = (d, false) := by
  rw [partialIns, h1]; simp [h2, h3]
theorem partialIns_go (lt : α → α → Bool) (a b s i i2 : Nat) (d d1 d2 : Array α) (h1 : scanSorted lt d b i = i2) (h2 : i2 ≠ b) (h3 : ¬ b - a < 50)
    (e1 : (if i2 - a ≥ 2 then shiftDown lt (i2 - 1) (swp d i2 (i2 - 1)) else swp d i2 (i2 - 1)) = d1) (e2 : (if b - i2 ≥ 2 then shiftUp lt b (i2 + 1) d1 else d1) = d2) : partialIns lt a b (s + 1) i d = partialIns lt a b s i2 d2 := by
  rw [← e2, ← e1, partialIns, h1]
  simp only [if_neg h2, if_neg h3]

def PiPost (R : World → Array α → Prop) (lt : α → α → Bool) (D : Array α) (a b blk : Nat) (w : World) (e : Ending) (w' : World) : Prop :=
  (∃ (G : Array α) (r : Bool), partialInsertionSort lt D a b = (G, r) ∧ e = .returned (.bool r) ∧ R w' G) ∧ Kp [blk] w w'

set_option maxRecDepth 100000 in
set_option maxHeartbeats 8000000 in
theorem partialInsertionSort_I (rv : Value) (blk n : Nat) (R : World → Array α → Prop) (hS : SwapI rv blk n R) (lt : α → α → Bool) (hL : LessI rv n lt R) (a b : Nat) (hab : a < b) (hb : b ≤ n) (hn : n ≤ 1000) (w : World) (D : Array α) (h : R w D) (hD : D.size = n) :
    Calls Tryz.prog 190 #[setV rv, .int .i64 a, .int .i64 b] w (PiPost R lt D a b blk w) := by
  have HI := Lib.hid (And.intro h (And.intro hS hL))
  have mL := lessM rv
  have mS := swapM rv
  clear h hS hL
  obtain ⟨a1, ha1⟩ : ∃ a1 : Nat, a + 1 = a1 := ⟨_, rfl⟩
  obtain ⟨l, hl⟩ : ∃ l : Nat, b - a = l := ⟨_, rfl⟩
  have hw1 : IntKind.i64.wrap ((a : Int) + 1) = (a1 : Int) := by rw [IntKind.wrap_i64]; omega
  have hw2 : IntKind.i64.wrap ((b : Int) - (a : Int)) = (l : Int) := by rw [IntKind.wrap_i64]; omega
  have ha1b : a < a1 ∧ a1 ≤ b := by omega
  have HE := Lib.hid (And.intro ha1 hl)
  clear ha1 hl
  go_enter Tryz.func190, Tryz.ntmps190
  go_wp2_with fail
  go_loopw [7, 8] (fun x y wr => ∃ (i t : Nat) (G : Array α), a < i ∧ i ≤ b ∧ t ≤ 5 ∧ x = .int .i64 i ∧ y = .int .i64 t ∧ (R wr G ∧ Hid (G.size = n ∧ partialIns lt a b (5 - t) i G = partialInsertionSort lt D a b)) ∧ Kp [blk] w wr) (fun _ y _ => 5 - (intOf y).toNat)
  case atStart => exact ⟨a1, 0, D, by omega, by omega, by omega, rfl, rfl, ⟨HI.out.1, Lib.hid ⟨hD, by rw [← HE.out.1]; rfl⟩⟩, Kp.refl _ _⟩
  case round =>
    obtain ⟨i0, t, G, hai0, hib0, ht, rfl, rfl, ⟨hIn, hG⟩, hK⟩ := hrel
    have hwt : IntKind.i64.wrap ((t : Int) + 1) = (t : Int) + 1 := by rw [IntKind.wrap_i64]; omega
    by_cases ht5 : t < 5
    · have hdt : decide ((t : Int) < 5) = true := by rw [decide_eq_true_eq]; omega
      obtain ⟨s, hs⟩ : ∃ s, 5 - t = s + 1 := ⟨4 - t, by omega⟩
      have HG2 := hG.out.2
      rw [hs] at HG2
      have HG := Lib.hid (And.intro hG.out.1 (And.intro HG2 hs))
      have HO := Lib.hid (And.intro hIn hK)
      clear hIn hK hs HG2 hG
      go_wp2_with fail
      go_loopw [7] (fun x wr => ∃ i : Nat, i0 ≤ i ∧ i ≤ b ∧ x = .int .i64 i ∧ (R wr G ∧ Hid (scanSorted lt G b i = scanSorted lt G b i0)) ∧ Kp [blk] w wr) (fun x _ => b - (intOf x).toNat)
      case atStart => exact ⟨i0, Nat.le_refl _, by omega, rfl, ⟨HO.out.1, Lib.hid rfl⟩, HO.out.2⟩
      case round =>
        obtain ⟨i, hi0, hib, rfl, ⟨hIn, hE⟩, hK⟩ := hrel
        obtain ⟨im, him⟩ : ∃ im : Nat, i - 1 = im := ⟨_, rfl⟩
        have hwi : IntKind.i64.wrap ((i : Int) + 1) = (i : Int) + 1 := by rw [IntKind.wrap_i64]; omega
        have hwm : IntKind.i64.wrap ((i : Int) - 1) = (im : Int) := by rw [IntKind.wrap_i64]; omega
        have himb : im < n ∧ im < i ∧ i ≤ im + 1 := by omega
        have HIM := Lib.hid him
        clear him
        by_cases hlt : i < b
        · have hdd : decide ((i : Int) < (b : Int)) = true := by rw [decide_eq_true_eq]; omega
          have HL := Lib.hid (HI.out.2.2 wr G hIn HG.out.1 i im (by omega) himb.1)
          have HK := Lib.hid hK
          clear hIn hK
          go_wp2_with fail
          refine HL.out.mono ?_
          rintro e w3 ⟨rfl, hI3, b3⟩
          have HY := Lib.hid (And.intro hI3 (HK.out.old b3))
          obtain ⟨bb, hbb⟩ : ∃ bb, lt G[i]! G[im]! = bb := ⟨_, rfl⟩
          rw [hbb]
          have HB := Lib.hid hbb
          clear hI3 b3 hbb HL HK
          cases bb
          · go_wp2_with fail
            go_roundw
            case rel => exact ⟨i + 1, by omega, by omega, by go_num, ⟨HY.out.1, Lib.hid (by rw [← hE.out, scanSorted_step lt G b i hlt (by rw [HIM.out]; exact HB.out)])⟩, HY.out.2⟩
            case measure => simp [intOf]; omega
          · have hSc : Hid (scanSorted lt G b i0 = i) := Lib.hid (by rw [← hE.out]; exact scanSorted_end lt G b i (fun _ => by rw [HIM.out]; exact HB.out))
            have hne : ((i : Int) == (b : Int)) = false := by rw [beq_eq_false_iff_ne]; omega
            have hneI : ¬ (i : Int) = (b : Int) := by omega
            have hneN : ¬ i = b := by omega
            clear hE HB
            by_cases h50 : l < 50
            · have d50 : decide ((l : Int) < 50) = true := by rw [decide_eq_true_eq]; omega
              go_wp2_with fail
              refine bodyPost_ret (v := .bool false) (by simp [results, Tryz.results190, go_sem]) rfl ⟨⟨G, false, ?_, rfl, HY.out.1⟩, HY.out.2⟩
              rw [← HG.out.2.1]
              exact partialIns_false lt a b s i0 i G hSc.out hneN (by rw [HE.out.2]; exact h50)
            · have d50 : decide ((l : Int) < 50) = false := by rw [decide_eq_false_iff_not]; omega
              have HS := Lib.hid (HI.out.2.1 w3 G HY.out.1 HG.out.1 i im (by omega) himb.1)
              have HF := Lib.hid HY.out.2
              obtain ⟨ia, hia⟩ : ∃ ia : Nat, i - a = ia := ⟨_, rfl⟩
              obtain ⟨bi, hbi⟩ : ∃ bi : Nat, b - i = bi := ⟨_, rfl⟩
              have hw3 : IntKind.i64.wrap ((i : Int) - (a : Int)) = (ia : Int) := by rw [IntKind.wrap_i64]; omega
              have hw4 : IntKind.i64.wrap ((b : Int) - (i : Int)) = (bi : Int) := by rw [IntKind.wrap_i64]; omega
              have HAB := Lib.hid (And.intro hia hbi)
              clear hia hbi HY
              go_wp2_with fail
              refine HS.out.mono ?_
              rintro e w4 ⟨rfl, h4, k4⟩
              obtain ⟨G1, hG1⟩ : ∃ G1, swp G i im = G1 := ⟨_, rfl⟩
              rw [hG1] at h4
              have H4 := Lib.hid (And.intro h4 (And.intro (HF.out.trans k4) (And.intro (show G1.size = n by rw [← hG1]; exact (swp_size _ _ _).trans HG.out.1) hG1)))
              clear h4 k4 HS HF hG1
              by_cases ha2 : 2 ≤ ia
              · have da2 : decide ((2 : Int) ≤ (ia : Int)) = true := by rw [decide_eq_true_eq]; omega
                have da2N : decide (2 ≤ ia) = true := by rw [decide_eq_true_eq]; omega
                go_wp2_with fail
                go_loopw [9] (fun x wr => ∃ (j : Nat) (F : Array α), j ≤ im ∧ x = .int .i64 j ∧ (R wr F ∧ Hid (F.size = n ∧ shiftDown lt j F = shiftDown lt im G1)) ∧ Kp [blk] w wr) (fun x _ => (intOf x).toNat)
                case atStart => exact ⟨im, G1, Nat.le_refl _, rfl, ⟨H4.out.1, Lib.hid ⟨H4.out.2.2.1, rfl⟩⟩, H4.out.2.1⟩
                case round =>
                  obtain ⟨j, F, hjim, rfl, ⟨hIn, hF⟩, hK⟩ := hrel
                  by_cases hj1 : 1 ≤ j
                  · have hdj : decide ((1 : Int) ≤ (j : Int)) = true := by rw [decide_eq_true_eq]; omega
                    have hdjN : decide (1 ≤ j) = true := by rw [decide_eq_true_eq]; omega
                    obtain ⟨jm, hjm⟩ : ∃ jm : Nat, j - 1 = jm := ⟨_, rfl⟩
                    have hwj : IntKind.i64.wrap ((j : Int) - 1) = (jm : Int) := by rw [IntKind.wrap_i64]; omega
                    have hjb : j < n ∧ jm < n ∧ jm < j := by omega
                    have HJM := Lib.hid hjm
                    clear hjm
                    have HL := Lib.hid (HI.out.2.2 wr F hIn hF.out.1 j jm hjb.1 hjb.2.1)
                    have HK := Lib.hid hK
                    clear hIn hK
                    go_wp2_with fail
                    refine HL.out.mono ?_
                    rintro e w5 ⟨rfl, hI5, b5⟩
                    have HY := Lib.hid (And.intro hI5 (HK.out.old b5))
                    obtain ⟨bb, hbb⟩ : ∃ bb, lt F[j]! F[jm]! = bb := ⟨_, rfl⟩
                    rw [hbb]
                    have HB := Lib.hid hbb
                    clear hI5 b5 hbb HL HK
                    cases bb
                    · have E1 : Hid ((if i - a ≥ 2 then shiftDown lt (i - 1) (swp G i (i - 1)) else swp G i (i - 1)) = F) := Lib.hid (by
                        rw [HAB.out.1, if_pos ha2, HIM.out, H4.out.2.2.2, ← hF.out.2]
                        exact shiftDown_end lt F j (fun _ => by rw [HJM.out]; exact HB.out))
                      have HZ := Lib.hid (And.intro HY.out.1 (And.intro HY.out.2 hF.out.1))
                      clear HB HY hwj hdj hdjN hjb HJM
                      by_cases hb2 : 2 ≤ bi
                      · have db2 : decide ((2 : Int) ≤ (bi : Int)) = true := by rw [decide_eq_true_eq]; omega
                        have db2N : decide (2 ≤ bi) = true := by rw [decide_eq_true_eq]; omega
                        go_wp2_with fail
                        go_loopw [10] (fun x wr => ∃ (j : Nat) (F2 : Array α), i < j ∧ j ≤ b ∧ x = .int .i64 j ∧ (R wr F2 ∧ Hid (F2.size = n ∧ shiftUp lt b j F2 = shiftUp lt b (i + 1) F)) ∧ Kp [blk] w wr) (fun x _ => b - (intOf x).toNat)
                        case atStart => exact ⟨i + 1, F, by omega, by omega, by go_num, ⟨HZ.out.1, Lib.hid ⟨HZ.out.2.2, rfl⟩⟩, HZ.out.2.1⟩
                        case round =>
                          obtain ⟨j, F2, hij, hjb, rfl, ⟨hIn, hF2⟩, hK⟩ := hrel
                          obtain ⟨jm, hjm⟩ : ∃ jm : Nat, j - 1 = jm := ⟨_, rfl⟩
                          have hwj : IntKind.i64.wrap ((j : Int) + 1) = (j : Int) + 1 := by rw [IntKind.wrap_i64]; omega
                          have hwjm : IntKind.i64.wrap ((j : Int) - 1) = (jm : Int) := by rw [IntKind.wrap_i64]; omega
                          have hjmb : jm < n := by omega
                          have HJM := Lib.hid hjm
                          clear hjm
                          by_cases hjlt : j < b
                          · have hdj : decide ((j : Int) < (b : Int)) = true := by rw [decide_eq_true_eq]; omega
                            have HL := Lib.hid (HI.out.2.2 wr F2 hIn hF2.out.1 j jm (by omega) hjmb)
                            have HK := Lib.hid hK
                            clear hIn hK
                            go_wp2_with fail
                            refine HL.out.mono ?_
                            rintro e w7 ⟨rfl, hI7, b7⟩
                            have HV0 := Lib.hid (And.intro hI7 (HK.out.old b7))
                            obtain ⟨bb, hbb⟩ : ∃ bb, lt F2[j]! F2[jm]! = bb := ⟨_, rfl⟩
                            rw [hbb]
                            have HB := Lib.hid hbb
                            clear hI7 b7 hbb HL HK
                            cases bb
                            · have E2 : Hid ((if b - i ≥ 2 then shiftUp lt b (i + 1) F else F) = F2) := Lib.hid (by
                                rw [HAB.out.2, if_pos hb2, ← hF2.out.2]
                                exact shiftUp_end lt F2 b j (fun _ => by rw [HJM.out]; exact HB.out))
                              have HV := Lib.hid (And.intro HV0.out.1 (And.intro HV0.out.2 hF2.out.1))
                              go_wp2_with fail
                              go_roundw
                              case rel => exact ⟨i, t + 1, F2, by omega, by omega, by omega, rfl, by go_num, ⟨HV.out.1, Lib.hid ⟨HV.out.2.2, by
                                have hs := HG.out.2.2
                                rw [← HG.out.2.1, show 5 - (t + 1) = s by omega]
                                exact (partialIns_go lt a b s i0 i G F F2 hSc.out hneN (by rw [HE.out.2]; exact h50) E1.out E2.out).symm⟩⟩, HV.out.2.1⟩
                              case measure => simp [intOf]; omega
                            · have HS := Lib.hid (HI.out.2.1 w7 F2 HV0.out.1 hF2.out.1 j jm (by omega) hjmb)
                              go_wp2_with fail
                              refine HS.out.mono ?_
                              rintro e w8 ⟨rfl, h8, k8⟩
                              have H8 := Lib.hid (And.intro h8 (HV0.out.2.trans k8))
                              clear h8 k8 HS
                              go_wp2_with fail
                              go_roundw
                              case rel => exact ⟨j + 1, _, by omega, by omega, by go_num, ⟨H8.out.1, Lib.hid ⟨(swp_size _ _ _).trans hF2.out.1, by rw [← hF2.out.2, shiftUp_step lt F2 b j hjlt (by rw [HJM.out]; exact HB.out), HJM.out]⟩⟩, H8.out.2⟩
                              case measure => simp [intOf]; omega
                          · have hdj : decide ((j : Int) < (b : Int)) = false := by rw [decide_eq_false_iff_not]; omega
                            have E2 : Hid ((if b - i ≥ 2 then shiftUp lt b (i + 1) F else F) = F2) := Lib.hid (by
                              rw [HAB.out.2, if_pos hb2, ← hF2.out.2]
                              exact shiftUp_end lt F2 b j (fun h => absurd h hjlt))
                            have HV := Lib.hid (And.intro hIn (And.intro hK hF2.out.1))
                            clear hIn hK
                            go_wp2_with fail
                            go_roundw
                            case rel => exact ⟨i, t + 1, F2, by omega, by omega, by omega, rfl, by go_num, ⟨HV.out.1, Lib.hid ⟨HV.out.2.2, by
                              have hs := HG.out.2.2
                              rw [← HG.out.2.1, show 5 - (t + 1) = s by omega]
                              exact (partialIns_go lt a b s i0 i G F F2 hSc.out hneN (by rw [HE.out.2]; exact h50) E1.out E2.out).symm⟩⟩, HV.out.2.1⟩
                            case measure => simp [intOf]; omega
                      · have db2 : decide ((2 : Int) ≤ (bi : Int)) = false := by rw [decide_eq_false_iff_not]; omega
                        have db2N : decide (2 ≤ bi) = false := by rw [decide_eq_false_iff_not]; omega
                        have E2 : Hid ((if b - i ≥ 2 then shiftUp lt b (i + 1) F else F) = F) := Lib.hid (by rw [HAB.out.2, if_neg hb2])
                        have HV := Lib.hid HZ.out
                        go_wp2_with fail
                        go_roundw
                        case rel => exact ⟨i, t + 1, F, by omega, by omega, by omega, rfl, by go_num, ⟨HV.out.1, Lib.hid ⟨HV.out.2.2, by
                          have hs := HG.out.2.2
                          rw [← HG.out.2.1, show 5 - (t + 1) = s by omega]
                          exact (partialIns_go lt a b s i0 i G F F hSc.out hneN (by rw [HE.out.2]; exact h50) E1.out E2.out).symm⟩⟩, HV.out.2.1⟩
                        case measure => simp [intOf]; omega
                    · have HS := Lib.hid (HI.out.2.1 w5 F HY.out.1 hF.out.1 j jm hjb.1 hjb.2.1)
                      go_wp2_with fail
                      refine HS.out.mono ?_
                      rintro e w6 ⟨rfl, h6, k6⟩
                      have H6 := Lib.hid (And.intro h6 (HY.out.2.trans k6))
                      clear h6 k6 HS
                      go_wp2_with fail
                      go_roundw
                      case rel => exact ⟨jm, _, by omega, rfl, ⟨H6.out.1, Lib.hid ⟨(swp_size _ _ _).trans hF.out.1, by rw [← hF.out.2, shiftDown_step lt F j hj1 (by rw [HJM.out]; exact HB.out), HJM.out]⟩⟩, H6.out.2⟩
                      case measure => simp [intOf]; omega
                  · have hdj : decide ((1 : Int) ≤ (j : Int)) = false := by rw [decide_eq_false_iff_not]; omega
                    have hdjN : decide (1 ≤ j) = false := by rw [decide_eq_false_iff_not]; omega
                    have E1 : Hid ((if i - a ≥ 2 then shiftDown lt (i - 1) (swp G i (i - 1)) else swp G i (i - 1)) = F) := Lib.hid (by
                      rw [HAB.out.1, if_pos ha2, HIM.out, H4.out.2.2.2, ← hF.out.2]
                      exact shiftDown_end lt F j (fun h => absurd h hj1))
                    have HZ := Lib.hid (And.intro hIn (And.intro hK hF.out.1))
                    clear hIn hK
                    by_cases hb2 : 2 ≤ bi
                    · have db2 : decide ((2 : Int) ≤ (bi : Int)) = true := by rw [decide_eq_true_eq]; omega
                      have db2N : decide (2 ≤ bi) = true := by rw [decide_eq_true_eq]; omega
                      go_wp2_with fail
                      go_loopw [10] (fun x wr => ∃ (j : Nat) (F2 : Array α), i < j ∧ j ≤ b ∧ x = .int .i64 j ∧ (R wr F2 ∧ Hid (F2.size = n ∧ shiftUp lt b j F2 = shiftUp lt b (i + 1) F)) ∧ Kp [blk] w wr) (fun x _ => b - (intOf x).toNat)
                      case atStart => exact ⟨i + 1, F, by omega, by omega, by go_num, ⟨HZ.out.1, Lib.hid ⟨HZ.out.2.2, rfl⟩⟩, HZ.out.2.1⟩
                      case round =>
                        obtain ⟨j, F2, hij, hjb, rfl, ⟨hIn, hF2⟩, hK⟩ := hrel
                        obtain ⟨jm, hjm⟩ : ∃ jm : Nat, j - 1 = jm := ⟨_, rfl⟩
                        have hwj : IntKind.i64.wrap ((j : Int) + 1) = (j : Int) + 1 := by rw [IntKind.wrap_i64]; omega
                        have hwjm : IntKind.i64.wrap ((j : Int) - 1) = (jm : Int) := by rw [IntKind.wrap_i64]; omega
                        have hjmb : jm < n := by omega
                        have HJM := Lib.hid hjm
                        clear hjm
                        by_cases hjlt : j < b
                        · have hdj : decide ((j : Int) < (b : Int)) = true := by rw [decide_eq_true_eq]; omega
                          have HL := Lib.hid (HI.out.2.2 wr F2 hIn hF2.out.1 j jm (by omega) hjmb)
                          have HK := Lib.hid hK
                          clear hIn hK
                          go_wp2_with fail
                          refine HL.out.mono ?_
                          rintro e w7 ⟨rfl, hI7, b7⟩
                          have HV0 := Lib.hid (And.intro hI7 (HK.out.old b7))
                          obtain ⟨bb, hbb⟩ : ∃ bb, lt F2[j]! F2[jm]! = bb := ⟨_, rfl⟩
                          rw [hbb]
                          have HB := Lib.hid hbb
                          clear hI7 b7 hbb HL HK
                          cases bb
                          · have E2 : Hid ((if b - i ≥ 2 then shiftUp lt b (i + 1) F else F) = F2) := Lib.hid (by
                              rw [HAB.out.2, if_pos hb2, ← hF2.out.2]
                              exact shiftUp_end lt F2 b j (fun _ => by rw [HJM.out]; exact HB.out))
                            have HV := Lib.hid (And.intro HV0.out.1 (And.intro HV0.out.2 hF2.out.1))
                            go_wp2_with fail
                            go_roundw
                            case rel => exact ⟨i, t + 1, F2, by omega, by omega, by omega, rfl, by go_num, ⟨HV.out.1, Lib.hid ⟨HV.out.2.2, by
                              have hs := HG.out.2.2
                              rw [← HG.out.2.1, show 5 - (t + 1) = s by omega]
                              exact (partialIns_go lt a b s i0 i G F F2 hSc.out hneN (by rw [HE.out.2]; exact h50) E1.out E2.out).symm⟩⟩, HV.out.2.1⟩
                            case measure => simp [intOf]; omega
                          · have HS := Lib.hid (HI.out.2.1 w7 F2 HV0.out.1 hF2.out.1 j jm (by omega) hjmb)
                            go_wp2_with fail
                            refine HS.out.mono ?_
                            rintro e w8 ⟨rfl, h8, k8⟩
                            have H8 := Lib.hid (And.intro h8 (HV0.out.2.trans k8))
                            clear h8 k8 HS
                            go_wp2_with fail
                            go_roundw
                            case rel => exact ⟨j + 1, _, by omega, by omega, by go_num, ⟨H8.out.1, Lib.hid ⟨(swp_size _ _ _).trans hF2.out.1, by rw [← hF2.out.2, shiftUp_step lt F2 b j hjlt (by rw [HJM.out]; exact HB.out), HJM.out]⟩⟩, H8.out.2⟩
                            case measure => simp [intOf]; omega
                        · have hdj : decide ((j : Int) < (b : Int)) = false := by rw [decide_eq_false_iff_not]; omega
                          have E2 : Hid ((if b - i ≥ 2 then shiftUp lt b (i + 1) F else F) = F2) := Lib.hid (by
                            rw [HAB.out.2, if_pos hb2, ← hF2.out.2]
                            exact shiftUp_end lt F2 b j (fun h => absurd h hjlt))
                          have HV := Lib.hid (And.intro hIn (And.intro hK hF2.out.1))
                          clear hIn hK
                          go_wp2_with fail
                          go_roundw
                          case rel => exact ⟨i, t + 1, F2, by omega, by omega, by omega, rfl, by go_num, ⟨HV.out.1, Lib.hid ⟨HV.out.2.2, by
                            have hs := HG.out.2.2
                            rw [← HG.out.2.1, show 5 - (t + 1) = s by omega]
                            exact (partialIns_go lt a b s i0 i G F F2 hSc.out hneN (by rw [HE.out.2]; exact h50) E1.out E2.out).symm⟩⟩, HV.out.2.1⟩
                          case measure => simp [intOf]; omega
                    · have db2 : decide ((2 : Int) ≤ (bi : Int)) = false := by rw [decide_eq_false_iff_not]; omega
                      have db2N : decide (2 ≤ bi) = false := by rw [decide_eq_false_iff_not]; omega
                      have E2 : Hid ((if b - i ≥ 2 then shiftUp lt b (i + 1) F else F) = F) := Lib.hid (by rw [HAB.out.2, if_neg hb2])
                      have HV := Lib.hid HZ.out
                      go_wp2_with fail
                      go_roundw
                      case rel => exact ⟨i, t + 1, F, by omega, by omega, by omega, rfl, by go_num, ⟨HV.out.1, Lib.hid ⟨HV.out.2.2, by
                        have hs := HG.out.2.2
                        rw [← HG.out.2.1, show 5 - (t + 1) = s by omega]
                        exact (partialIns_go lt a b s i0 i G F F hSc.out hneN (by rw [HE.out.2]; exact h50) E1.out E2.out).symm⟩⟩, HV.out.2.1⟩
                      case measure => simp [intOf]; omega
              · have da2 : decide ((2 : Int) ≤ (ia : Int)) = false := by rw [decide_eq_false_iff_not]; omega
                have da2N : decide (2 ≤ ia) = false := by rw [decide_eq_false_iff_not]; omega
                obtain ⟨F, hFe⟩ : ∃ F, G1 = F := ⟨_, rfl⟩
                have E1 : Hid ((if i - a ≥ 2 then shiftDown lt (i - 1) (swp G i (i - 1)) else swp G i (i - 1)) = F) := Lib.hid (by rw [HAB.out.1, if_neg ha2, HIM.out, H4.out.2.2.2]; exact hFe)
                have HZ : Hid (R w4 F ∧ Kp [blk] w w4 ∧ F.size = n) := Lib.hid (by rw [← hFe]; exact ⟨H4.out.1, H4.out.2.1, H4.out.2.2.1⟩)
                clear hFe
                by_cases hb2 : 2 ≤ bi
                · have db2 : decide ((2 : Int) ≤ (bi : Int)) = true := by rw [decide_eq_true_eq]; omega
                  have db2N : decide (2 ≤ bi) = true := by rw [decide_eq_true_eq]; omega
                  go_wp2_with fail
                  go_loopw [10] (fun x wr => ∃ (j : Nat) (F2 : Array α), i < j ∧ j ≤ b ∧ x = .int .i64 j ∧ (R wr F2 ∧ Hid (F2.size = n ∧ shiftUp lt b j F2 = shiftUp lt b (i + 1) F)) ∧ Kp [blk] w wr) (fun x _ => b - (intOf x).toNat)
                  case atStart => exact ⟨i + 1, F, by omega, by omega, by go_num, ⟨HZ.out.1, Lib.hid ⟨HZ.out.2.2, rfl⟩⟩, HZ.out.2.1⟩
                  case round =>
                    obtain ⟨j, F2, hij, hjb, rfl, ⟨hIn, hF2⟩, hK⟩ := hrel
                    obtain ⟨jm, hjm⟩ : ∃ jm : Nat, j - 1 = jm := ⟨_, rfl⟩
                    have hwj : IntKind.i64.wrap ((j : Int) + 1) = (j : Int) + 1 := by rw [IntKind.wrap_i64]; omega
                    have hwjm : IntKind.i64.wrap ((j : Int) - 1) = (jm : Int) := by rw [IntKind.wrap_i64]; omega
                    have hjmb : jm < n := by omega
                    have HJM := Lib.hid hjm
                    clear hjm
                    by_cases hjlt : j < b
                    · have hdj : decide ((j : Int) < (b : Int)) = true := by rw [decide_eq_true_eq]; omega
                      have HL := Lib.hid (HI.out.2.2 wr F2 hIn hF2.out.1 j jm (by omega) hjmb)
                      have HK := Lib.hid hK
                      clear hIn hK
                      go_wp2_with fail
                      refine HL.out.mono ?_
                      rintro e w7 ⟨rfl, hI7, b7⟩
                      have HV0 := Lib.hid (And.intro hI7 (HK.out.old b7))
                      obtain ⟨bb, hbb⟩ : ∃ bb, lt F2[j]! F2[jm]! = bb := ⟨_, rfl⟩
                      rw [hbb]
                      have HB := Lib.hid hbb
                      clear hI7 b7 hbb HL HK
                      cases bb
                      · have E2 : Hid ((if b - i ≥ 2 then shiftUp lt b (i + 1) F else F) = F2) := Lib.hid (by
                          rw [HAB.out.2, if_pos hb2, ← hF2.out.2]
                          exact shiftUp_end lt F2 b j (fun _ => by rw [HJM.out]; exact HB.out))
                        have HV := Lib.hid (And.intro HV0.out.1 (And.intro HV0.out.2 hF2.out.1))
                        go_wp2_with fail
                        go_roundw
                        case rel => exact ⟨i, t + 1, F2, by omega, by omega, by omega, rfl, by go_num, ⟨HV.out.1, Lib.hid ⟨HV.out.2.2, by
                          have hs := HG.out.2.2
                          rw [← HG.out.2.1, show 5 - (t + 1) = s by omega]
                          exact (partialIns_go lt a b s i0 i G F F2 hSc.out hneN (by rw [HE.out.2]; exact h50) E1.out E2.out).symm⟩⟩, HV.out.2.1⟩
                        case measure => simp [intOf]; omega
                      · have HS := Lib.hid (HI.out.2.1 w7 F2 HV0.out.1 hF2.out.1 j jm (by omega) hjmb)
                        go_wp2_with fail
                        refine HS.out.mono ?_
                        rintro e w8 ⟨rfl, h8, k8⟩
                        have H8 := Lib.hid (And.intro h8 (HV0.out.2.trans k8))
                        clear h8 k8 HS
                        go_wp2_with fail
                        go_roundw
                        case rel => exact ⟨j + 1, _, by omega, by omega, by go_num, ⟨H8.out.1, Lib.hid ⟨(swp_size _ _ _).trans hF2.out.1, by rw [← hF2.out.2, shiftUp_step lt F2 b j hjlt (by rw [HJM.out]; exact HB.out), HJM.out]⟩⟩, H8.out.2⟩
                        case measure => simp [intOf]; omega
                    · have hdj : decide ((j : Int) < (b : Int)) = false := by rw [decide_eq_false_iff_not]; omega
                      have E2 : Hid ((if b - i ≥ 2 then shiftUp lt b (i + 1) F else F) = F2) := Lib.hid (by
                        rw [HAB.out.2, if_pos hb2, ← hF2.out.2]
                        exact shiftUp_end lt F2 b j (fun h => absurd h hjlt))
                      have HV := Lib.hid (And.intro hIn (And.intro hK hF2.out.1))
                      clear hIn hK
                      go_wp2_with fail
                      go_roundw
                      case rel => exact ⟨i, t + 1, F2, by omega, by omega, by omega, rfl, by go_num, ⟨HV.out.1, Lib.hid ⟨HV.out.2.2, by
                        have hs := HG.out.2.2
                        rw [← HG.out.2.1, show 5 - (t + 1) = s by omega]
                        exact (partialIns_go lt a b s i0 i G F F2 hSc.out hneN (by rw [HE.out.2]; exact h50) E1.out E2.out).symm⟩⟩, HV.out.2.1⟩
                      case measure => simp [intOf]; omega
                · have db2 : decide ((2 : Int) ≤ (bi : Int)) = false := by rw [decide_eq_false_iff_not]; omega
                  have db2N : decide (2 ≤ bi) = false := by rw [decide_eq_false_iff_not]; omega
                  have E2 : Hid ((if b - i ≥ 2 then shiftUp lt b (i + 1) F else F) = F) := Lib.hid (by rw [HAB.out.2, if_neg hb2])
                  have HV := Lib.hid HZ.out
                  go_wp2_with fail
                  go_roundw
                  case rel => exact ⟨i, t + 1, F, by omega, by omega, by omega, rfl, by go_num, ⟨HV.out.1, Lib.hid ⟨HV.out.2.2, by
                    have hs := HG.out.2.2
                    rw [← HG.out.2.1, show 5 - (t + 1) = s by omega]
                    exact (partialIns_go lt a b s i0 i G F F hSc.out hneN (by rw [HE.out.2]; exact h50) E1.out E2.out).symm⟩⟩, HV.out.2.1⟩
                  case measure => simp [intOf]; omega
        · have hdd : decide ((i : Int) < (b : Int)) = false := by rw [decide_eq_false_iff_not]; omega
          have hieq : i = b := by omega
          have HY := Lib.hid (And.intro hIn hK)
          have hSc : Hid (scanSorted lt G b i0 = b) := Lib.hid (by rw [← hE.out, scanSorted_end lt G b i (fun h => absurd h hlt)]; exact hieq)
          clear hIn hK hE
          subst hieq
          go_wp2_with fail
          refine bodyPost_ret (v := .bool true) (by simp [results, Tryz.results190, go_sem]) rfl ⟨⟨G, true, ?_, rfl, HY.out.1⟩, HY.out.2⟩
          rw [← HG.out.2.1]
          exact partialIns_true lt a i s i0 G hSc.out
    · have hdt : decide ((t : Int) < 5) = false := by rw [decide_eq_false_iff_not]; omega
      have HY := Lib.hid (And.intro hIn hK)
      clear hIn hK
      go_wp2_with fail
      refine bodyPost_ret (v := .bool false) (by simp [results, Tryz.results190, go_sem]) rfl ⟨⟨G, false, ?_, rfl, HY.out.1⟩, HY.out.2⟩
      rw [← hG.out.2, show 5 - t = 0 by omega]
      rfl
end Go.Proofs.YtcljffldbnoljaaGreatDoor
