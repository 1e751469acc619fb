/-
  slices.pdqsort over a row of uint32: the row is sorted. Conditions: as the contract says.
  slices.Sort over a row of uint32: the row is sorted. Conditions: as the contract says.
  cmp.Less at uint64; a row of uint64: what reading two of its places wants, what swapping them leaves. Conditions: as each law says.
-/
import Derived.Test.YtcljffldbnoljaaGreatDoorJYa
import Derived.Test.YtcljffldbnoljaaGreatDoorYc
import Derived.Test.YtcljffldbnoljaaGreatDoorJYd
import Derived.Test.YtcljffldbnoljaaGreatDoorYf
import Derived.Test.YtcljffldbnoljaaGreatDoorYg
import Derived.Test.YtcljffldbnoljaaGreatDoorJVq
import Derived.Deep.Cut
import Derived.Deep.CutRange
import Derived.Deep.CutBlock
import Derived.Test.YtcljffldbnoljaaGreatDoorJQu
import Derived.BigRegion
import Derived.BigQuiet
import Derived.Deep.QuietTactic
import Derived.Deep.RegionWith
namespace Go.Proofs.YtcljffldbnoljaaGreatDoor
open Go.RowKit Go.Sort

def PdPostU (blk : Nat) (D : Array Nat) (a b : Nat) (w : World) (e : Ending) (w' : World) : Prop :=
  e = .returned (.tuple #[]) ∧ (∃ D', U32 w' blk D' ∧ PermIn a b D D' ∧ SortedIn ltN a b D') ∧ Kp [blk] w w'

set_option maxRecDepth 100000 in
set_option maxHeartbeats 16000000 in
theorem pdqsort_u32 (B blk cp n : Nat) (hBb : blk < B) (hnc : n ≤ cp) (hn : n ≤ 1000) : ∀ (q a b lim : Nat), b - a ≤ q → a ≤ b → b ≤ n → lim ≤ 1000 → ∀ (w : World) (D : Array Nat), B ≤ w.heap.size → blk < w.heap.size → U32 w blk D → D.size = n → Sort.Below ltN a b D →
    Calls Tryz.prog 202 #[.slice (some ⟨blk, 0, none⟩) n cp, .int .i64 a, .int .i64 b, .int .i64 lim] w (PdPostU blk D a b w) := by
  intro q
  induction q using Nat.strongRecOn with
  | _ q ih =>
  intro a b lim hq hab hb hlim w D hBw hblk h hD hBel
  have IH := Lib.hid ih
  have HI := Lib.hid (And.intro trivial (And.intro trivial (And.intro trivial (And.intro hBw (And.intro hblk hD)))))
  have H0 := Lib.hid (And.intro h hBel)
  clear ih h hBel hBw hblk hD
  go_enter Tryz.func202, Tryz.ntmps202
  go_wp2_with fail
  go_loopw [1, 2, 3, 8, 9] (fun va vb vl v8 v9 wr => ∃ (x y l : Nat) (wb wp : Bool) (G : Array Nat), a ≤ x ∧ x ≤ y ∧ y ≤ b ∧ l ≤ lim ∧ va = .int .i64 x ∧ vb = .int .i64 y ∧ vl = .int .i64 l ∧ v8 = .bool wb ∧ v9 = .bool wp ∧ (U32 wr blk G ∧ Hid (PQ ltN a b D x y G)) ∧ Kp [blk] w wr) (fun va vb _ _ _ _ => (intOf vb - intOf va).toNat)
  case atStart => exact ⟨a, b, lim, true, true, D, Nat.le_refl _, hab, Nat.le_refl _, Nat.le_refl _, rfl, rfl, rfl, rfl, rfl, ⟨H0.out.1, Lib.hid (pq_start H0.out.2)⟩, Kp.refl _ _⟩
  case round =>
    obtain ⟨x, y, l, wb, wp, G, hax, hxy, hyb, hll, rfl, rfl, rfl, rfl, rfl, ⟨hIn, hG⟩, hK⟩ := hrel
    obtain ⟨len, hlen⟩ : ∃ len : Nat, y - x = len := ⟨_, rfl⟩
    have hwl : IntKind.i64.wrap ((y : Int) - (x : Int)) = (len : Int) := by rw [IntKind.wrap_i64]; omega
    have HLn := Lib.hid hlen
    have HGs : Hid (G.size = n) := Lib.hid (hG.out.2.1.1.trans HI.out.2.2.2.2.2)
    have hwB : Hid (B ≤ wr.heap.size ∧ blk < wr.heap.size) := Lib.hid ⟨Nat.le_trans HI.out.2.2.2.1 hK.size, Nat.lt_of_lt_of_le HI.out.2.2.2.2.1 hK.size⟩
    clear hlen
    by_cases h12 : len ≤ 12
    · have d12 : decide ((len : Int) ≤ 12) = true := by rw [decide_eq_true_eq]; omega
      have d12N : decide (len ≤ 12) = true := by rw [decide_eq_true_eq]; omega
      have HC := Lib.hid (insertionSort_u32 blk cp n hnc x y hxy (by omega) hn wr G hIn HGs.out)
      have HK := Lib.hid hK
      clear hIn hK
      go_wp2_with fail
      refine HC.out.mono ?_
      rintro e w2 ⟨rfl, h2, k2⟩
      have H2 := Lib.hid (And.intro h2 (HK.out.trans k2))
      clear h2 k2 HC
      go_wp2_with fail
      have hs := insertionSort_holds (lt := ltN) ltN_swo G x y hxy (by have := HGs.out; omega)
      refine bodyPost_ret (results_none rfl _ _ _) rfl ⟨rfl, ⟨_, H2.out.1, ?_⟩, H2.out.2⟩
      exact pq_end hax hyb (by have := HI.out.2.2.2.2.2; omega) hG.out hs.1 hs.2
    · have d12 : decide ((len : Int) ≤ 12) = false := by rw [decide_eq_false_iff_not]; omega
      have d12N : decide (len ≤ 12) = false := by rw [decide_eq_false_iff_not]; omega
      have hxy' : x < y := by have := HLn.out; omega
      by_cases hl0 : l = 0
      · subst hl0
        have HC := Lib.hid (heapSort_u32 blk cp n hnc x y hxy' (by omega) hn wr G hIn HGs.out)
        have HK := Lib.hid hK
        clear hIn hK
        go_wp2_with fail
        refine HC.out.mono ?_
        rintro e w2 ⟨rfl, h2, k2⟩
        have H2 := Lib.hid (And.intro h2 (HK.out.trans k2))
        clear h2 k2 HC
        go_wp2_with fail
        have hs := heapSort_holds (lt := ltN) ltN_swo G x y hxy (by have := HGs.out; omega)
        refine bodyPost_ret (results_none rfl _ _ _) rfl ⟨rfl, ⟨_, H2.out.1, ?_⟩, H2.out.2⟩
        exact pq_end hax hyb (by have := HI.out.2.2.2.2.2; omega) hG.out hs.1 hs.2
      · have hl0I : ((l : Int) == 0) = false := by rw [beq_eq_false_iff_ne]; omega
        have hl0N : (l == 0) = false := by rw [beq_eq_false_iff_ne]; omega
        have hl0n : ¬ (l : Int) = 0 := by omega
        have hlw : IntKind.i64.wrap ((l : Int) - 1) = ((l - 1 : Nat) : Int) := by rw [IntKind.wrap_i64]; omega
        obtain ⟨l1, hl1⟩ : ∃ l1, l - 1 = l1 := ⟨_, rfl⟩
        rw [hl1] at hlw
        have HL1 := Lib.hid hl1
        have HW := Lib.hid (And.intro hIn hK)
        clear hIn hK hl1
        go_upto_if 35 with fail
        go_cut [3] from 19 to 133 (fun s3 wx => ∃ (l2 : Nat) (G1 : Array Nat), l2 ≤ lim ∧ s3 = .int .i64 l2 ∧ (U32 wx blk G1 ∧ Hid (PermIn x y G G1)) ∧ Kp [blk] w wx)
        case first =>
          cases wb
          · have HC := Lib.hid (breakPatterns_u32 B blk cp n hBb hnc x y hxy' (by omega) hn wr hwB.out.1 hwB.out.2 G HW.out.1 HGs.out)
            go_wp2_with fail
            refine HC.out.mono ?_
            rintro e w2 ⟨rfl, ⟨G1, h2, hp2⟩, k2⟩
            have H2 := Lib.hid (And.intro h2 (And.intro hp2 (HW.out.2.trans k2)))
            clear h2 hp2 k2 HC
            go_wp2_with fail
            go_meet
            case rel => exact ⟨l1, G1, by have := HL1.out; omega, rfl, ⟨H2.out.1, Lib.hid H2.out.2.1⟩, H2.out.2.2⟩
          · go_wp2_with fail
            go_meet
            case rel => exact ⟨l, G, hll, rfl, ⟨HW.out.1, Lib.hid (permIn_refl _ _ _)⟩, HW.out.2⟩
        case rest =>
          obtain ⟨l2, G1, hl2, rfl, ⟨hIn, hG1⟩, hK⟩ := hcut
          have HG1s : Hid (G1.size = n) := Lib.hid (hG1.out.1.trans HGs.out)
          have HC := Lib.hid (choosePivot_u32 B blk cp n hBb hnc x y hxy' (by omega) hn wc (Nat.le_trans HI.out.2.2.2.1 hK.size) G1 hIn HG1s.out)
          have HK := Lib.hid hK
          clear hIn hK
          go_upto_if 50 with (go_at_call 213; refine HC.out.mono ?_; rintro _ w2 ⟨⟨p, h, hp1, hp2, hh, rfl⟩, h2, k2⟩; replace h2 := Lib.hid (And.intro h2 (HK.out.trans (Kp.of_below k2 [blk]))); clear k2)
          clear HC HK
          go_cut [11, 12] from 19 to 133 (fun s11 s12 wx => ∃ (p2 : Nat) (h3 : Int) (G2 : Array Nat), x ≤ p2 ∧ p2 < y ∧ s11 = .int .i64 p2 ∧ s12 = .int .i64 h3 ∧ (U32 wx blk G2 ∧ Hid (PermIn x y G G2)) ∧ Kp [blk] w wx)
          case first =>
            by_cases hd2 : h = 2
            · subst hd2
              have HC := Lib.hid (reverseRange_u32 blk cp n hnc x y hxy' (by omega) hn w2 G1 h2.out.1 HG1s.out)
              obtain ⟨p2, hp2e⟩ : ∃ p2 : Nat, (y - 1) - (p - x) = p2 := ⟨_, rfl⟩
              obtain ⟨y1, hy1⟩ : ∃ y1 : Nat, y - 1 = y1 := ⟨_, rfl⟩
              obtain ⟨px, hpx⟩ : ∃ px : Nat, p - x = px := ⟨_, rfl⟩
              have hw1 : IntKind.i64.wrap ((y : Int) - 1) = (y1 : Int) := by rw [IntKind.wrap_i64]; omega
              have hw2 : IntKind.i64.wrap ((p : Int) - (x : Int)) = (px : Int) := by rw [IntKind.wrap_i64]; omega
              have hw3 : IntKind.i64.wrap ((y1 : Int) - (px : Int)) = (p2 : Int) := by rw [IntKind.wrap_i64]; omega
              have hpb : x ≤ p2 ∧ p2 < y := by omega
              clear hp2e hy1 hpx
              go_wp2_with fail
              refine HC.out.mono ?_
              rintro e w3 ⟨rfl, ⟨G2, h3, hp3⟩, k3⟩
              have H3 := Lib.hid (And.intro h3 (And.intro hp3 (h2.out.2.trans k3)))
              clear h3 hp3 k3 HC
              go_wp2_with fail
              go_meet
              case rel => exact ⟨p2, 1, G2, hpb.1, hpb.2, rfl, rfl, ⟨H3.out.1, Lib.hid (permIn_trans _ _ _ _ _ hG1.out H3.out.2.1)⟩, H3.out.2.2⟩
            · have hd2b : (h == 2) = false := by rw [beq_eq_false_iff_ne]; exact hd2
              go_wp2_with fail
              go_meet
              case rel => exact ⟨p, h, G1, hp1, hp2, rfl, rfl, ⟨h2.out.1, hG1⟩, h2.out.2⟩
          case rest =>
            clear h2 hp1 hp2 hh
            obtain ⟨p2, h3, G2, hxp, hpy, rfl, rfl, ⟨hIn, hG2⟩, hK⟩ := hcut
            have HW2 := Lib.hid (And.intro hIn hK)
            clear hIn hK
            have HG2s : Hid (G2.size = n) := Lib.hid (hG2.out.1.trans HGs.out)
            go_upto_region 15 with fail
            go_cut [68] from 19 to 133 (fun s68 wx => (∃ tb : Bool, s68 = .bool tb) ∧ (U32 wx blk G2 ∧ Kp [blk] w wx))
            case first =>
              cases wb
              · go_wp2_with fail
                go_meet
                case rel => exact ⟨⟨_, rfl⟩, HW2.out⟩
              · cases wp
                · go_wp2_with fail
                  go_meet
                  case rel => exact ⟨⟨_, rfl⟩, HW2.out⟩
                · go_wp2_with fail
                  go_meet
                  case rel => exact ⟨⟨_, rfl⟩, HW2.out⟩
            case rest =>
              obtain ⟨⟨tb, rfl⟩, hW3⟩ := hcut
              have HW3 := Lib.hid hW3
              clear hW3 HW2
              go_upto_if 68 with fail
              go_cut [] from 19 to 133 (fun wx => ∃ G3 : Array Nat, (U32 wx blk G3 ∧ Hid (PermIn x y G G3)) ∧ Kp [blk] w wx)
              case first =>
                cases tb
                · go_wp2_with fail
                  go_meet
                  case rel => exact ⟨G2, ⟨HW3.out.1, hG2⟩, HW3.out.2⟩
                · have HC := Lib.hid (partialInsertionSort_u32 blk cp n hnc x y hxy' (by omega) hn _ G2 HW3.out.1 HG2s.out)
                  go_wp2_with fail
                  refine HC.out.mono ?_
                  rintro e w4 ⟨⟨G3, r, hpe, rfl, h4⟩, k4⟩
                  have hs := partialInsertionSort_holds (lt := ltN) ltN_swo G2 x y hxy' (by have := HG2s.out; omega) (Below.perm hG.out.1 (by have := HGs.out; omega) hG2.out)
                  rw [hpe] at hs
                  have H4 := Lib.hid (And.intro h4 (And.intro (HW3.out.2.trans k4) hs))
                  clear h4 k4 HC hpe
                  cases r
                  · go_wp2_with fail
                    go_meet
                    case rel => exact ⟨G3, ⟨H4.out.1, Lib.hid (permIn_trans _ _ _ _ _ hG2.out H4.out.2.2.1)⟩, H4.out.2.1⟩
                  · go_wp2_with fail
                    refine bodyPost_ret (results_none rfl _ _ _) rfl ⟨rfl, ⟨G3, H4.out.1, ?_⟩, H4.out.2.1⟩
                    exact pq_end hax hyb (by have := HI.out.2.2.2.2.2; omega) hG.out (permIn_trans _ _ _ _ _ hG2.out H4.out.2.2.1) (H4.out.2.2.2 (by trivial))
              case rest =>
                obtain ⟨G3, ⟨hIn, hG3⟩, hK⟩ := hcut
                have HW4 := Lib.hid (And.intro hIn hK)
                have HG3s : Hid (G3.size = n) := Lib.hid (hG3.out.1.trans HGs.out)
                have HPQ : Hid (PQ ltN a b D x y G3) := Lib.hid (pq_perm hax hyb (by have := HI.out.2.2.2.2.2; omega) hG.out hG3.out)
                clear hIn hK HW3 hG3
                go_upto_region 17 with fail
                go_cut [87] from 19 to 133 (fun s87 wx => (∃ tb : Bool, s87 = .bool tb ∧ Hid (tb = true → 0 < x ∧ ltN G3[x - 1]! G3[p2]! = false)) ∧ (U32 wx blk G3 ∧ Kp [blk] w wx))
                case first =>
                  by_cases hx0 : 0 < x
                  · have dx : decide ((0 : Int) < (x : Int)) = true := by rw [decide_eq_true_eq]; omega
                    have dxN : decide (0 < x) = true := by rw [decide_eq_true_eq]; omega
                    obtain ⟨x1, hx1⟩ : ∃ x1 : Nat, x - 1 = x1 := ⟨_, rfl⟩
                    have hw1 : IntKind.i64.wrap ((x : Int) - 1) = (x1 : Int) := by rw [IntKind.wrap_i64]; omega
                    obtain ⟨vx, vy, bb0, qc1, qf1, qc2, qf2, qi1, qi2, hcl0, HB0⟩ := u32_less (X := x1) (Y := p2) HW4.out.1 HG3s.out (by omega) (by omega)
                    have HCl := Lib.hid hcl0
                    have HR0 := Lib.hid (HW4.out.1)
                    clear hcl0
                    have HX1 := Lib.hid hx1
                    clear hx1
                    go_wp2_with fail
                    go_quiet (first | (go_at_call 216; exact Calls.quiet_of_same (HCl.out _)))
                    obtain ⟨w5, hww⟩ : ∃ W, World.drewN wc nq = W := ⟨_, rfl⟩
                    rw [hww]
                    have h5 : U32 w5 blk G3 := hww ▸ u32_drewN HR0.out
                    have b5 : RowKit.Below (World.heap wc).size wc w5 := hww ▸ below_drewN (RowKit.Below.refl _ _) _
                    clear hww qc1 qf1 qc2 qf2 qi1 qi2
                    have H5 := Lib.hid (And.intro h5 (HW4.out.2.old b5))
                    obtain ⟨bb, hbb⟩ : ∃ B, bb0 = B := ⟨_, rfl⟩
                    rw [hbb]
                    have HB := Lib.hid (HB0.out.trans hbb)
                    clear h5 b5 hbb
                    cases bb
                    · go_wp2_with fail
                      go_meet
                      case rel => exact ⟨⟨true, rfl, Lib.hid fun _ => ⟨hx0, by rw [HX1.out]; exact HB.out⟩⟩, H5.out⟩
                    · go_wp2_with fail
                      go_meet
                      case rel => exact ⟨⟨false, rfl, Lib.hid fun hc => by cases hc⟩, H5.out⟩
                  · have dx : decide ((0 : Int) < (x : Int)) = false := by rw [decide_eq_false_iff_not]; omega
                    have dxN : decide (0 < x) = false := by rw [decide_eq_false_iff_not]; omega
                    go_wp2_with fail
                    go_quiet (fail)
                    go_wp2_with fail
                    go_meet
                    case rel => exact ⟨⟨false, rfl, Lib.hid fun hc => by cases hc⟩, u32_drewN HW4.out.1, HW4.out.2.drewN nq⟩
                case rest =>
                  obtain ⟨⟨tb, rfl, hT⟩, hW5⟩ := hcut
                  have HW5 := Lib.hid hW5
                  clear hW5 HW4
                  cases tb
                  · have HC := Lib.hid (partition_u32 blk cp n hnc x y p2 hxp hpy (by omega) hn _ G3 HW5.out.1 HG3s.out)
                    go_wp2_with fail
                    refine HC.out.mono ?_
                    rintro e w6 ⟨⟨m, E, ap, rfl, h6, hp6⟩, k6⟩
                    have H6 := Lib.hid (And.intro h6 (And.intro hp6 (HW5.out.2.trans k6)))
                    have hxm : x ≤ m ∧ m < y := ⟨hp6.2.1, hp6.2.2.1⟩
                    clear h6 hp6 k6 HC
                    have HBs := Lib.hid (pq_belows hax hyb (by have := HI.out.2.2.2.2.2; omega) HPQ.out H6.out.2.1)
                    have HEs : Hid (E.size = n) := Lib.hid (H6.out.2.1.1.1.trans HG3s.out)
                    obtain ⟨ll, hll2⟩ : ∃ ll : Nat, m - x = ll := ⟨_, rfl⟩
                    obtain ⟨rl, hrl⟩ : ∃ rl : Nat, y - m = rl := ⟨_, rfl⟩
                    obtain ⟨bt, hbt⟩ : ∃ bt : Nat, len / 8 = bt := ⟨_, rfl⟩
                    obtain ⟨m1, hm1⟩ : ∃ m1 : Nat, m + 1 = m1 := ⟨_, rfl⟩
                    have hw1 : IntKind.i64.wrap ((m : Int) - (x : Int)) = (ll : Int) := by rw [IntKind.wrap_i64]; omega
                    have hw2 : IntKind.i64.wrap ((y : Int) - (m : Int)) = (rl : Int) := by rw [IntKind.wrap_i64]; omega
                    have hw3 : (len : Int) / 8 = (bt : Int) := by omega
                    have hw3' : Int.tdiv (len : Int) 8 = (bt : Int) := by rw [Int.tdiv_eq_ediv_of_nonneg (by omega)]; omega
                    have hw3w : IntKind.i64.wrap (bt : Int) = (bt : Int) := by have := HLn.out; rw [IntKind.wrap_i64]; omega
                    have hw4 : IntKind.i64.wrap ((m : Int) + 1) = (m1 : Int) := by rw [IntKind.wrap_i64]; omega
                    have HM := Lib.hid (And.intro hll2 (And.intro hrl hm1))
                    have hB6 : Hid (B ≤ w6.heap.size ∧ blk < w6.heap.size) := Lib.hid ⟨Nat.le_trans HI.out.2.2.2.1 H6.out.2.2.size, Nat.lt_of_lt_of_le HI.out.2.2.2.2.1 H6.out.2.2.size⟩
                    have hmb : x ≤ m ∧ m < m1 ∧ m1 ≤ y := by omega
                    by_cases hlr : ll < rl
                    · have dlr : decide ((ll : Int) < (rl : Int)) = true := by rw [decide_eq_true_eq]; omega
                      have dlrN : decide (ll < rl) = true := by rw [decide_eq_true_eq]; omega
                      have HC := Lib.hid (IH.out (m - x) (by have := HM.out; have := HLn.out; omega) x m l2 (Nat.le_refl _) hmb.1 (by omega) (by omega) w6 E hB6.out.1 hB6.out.2 H6.out.1 HEs.out HBs.out.1)
                      clear hll2 hrl hbt hm1
                      go_wp2_with fail
                      refine HC.out.mono ?_
                      rintro e w7 ⟨rfl, ⟨L, h7, hp7, hs7⟩, k7⟩
                      have H7 := Lib.hid (And.intro h7 (And.intro (pq_left ltN_swo hax hyb (by have := HI.out.2.2.2.2.2; omega) HPQ.out H6.out.2.1 hp7 hs7) (H6.out.2.2.trans k7)))
                      clear h7 hp7 hs7 k7 HC
                      go_wp2_with fail
                      go_roundw
                      case rel => exact ⟨m1, y, l2, _, _, L, by omega, by omega, hyb, hl2, rfl, rfl, rfl, rfl, rfl, ⟨H7.out.1, Lib.hid (by rw [← HM.out.2.2]; exact H7.out.2.1)⟩, H7.out.2.2⟩
                      case measure => simp [intOf]; omega
                    · have dlr : decide ((ll : Int) < (rl : Int)) = false := by rw [decide_eq_false_iff_not]; omega
                      have dlrN : decide (ll < rl) = false := by rw [decide_eq_false_iff_not]; omega
                      have HC := Lib.hid (IH.out (y - m1) (by have := HM.out; have := HLn.out; omega) m1 y l2 (Nat.le_refl _) hmb.2.2 (by omega) (by omega) w6 E hB6.out.1 hB6.out.2 H6.out.1 HEs.out (by rw [← HM.out.2.2]; exact HBs.out.2))
                      clear hll2 hrl hbt hm1
                      go_wp2_with fail
                      refine HC.out.mono ?_
                      rintro e w7 ⟨rfl, ⟨L, h7, hp7, hs7⟩, k7⟩
                      rw [← HM.out.2.2] at hp7 hs7
                      have H7 := Lib.hid (And.intro h7 (And.intro (pq_right ltN_swo hax hyb (by have := HI.out.2.2.2.2.2; omega) HPQ.out H6.out.2.1 hp7 hs7) (H6.out.2.2.trans k7)))
                      clear h7 hp7 hs7 k7 HC
                      go_wp2_with fail
                      go_roundw
                      case rel => exact ⟨x, m, l2, _, _, L, hax, by omega, by omega, hl2, rfl, rfl, rfl, rfl, rfl, ⟨H7.out.1, Lib.hid H7.out.2.1⟩, H7.out.2.2⟩
                      case measure => simp [intOf]; omega
                  · have HC := Lib.hid (partitionEqual_u32 blk cp n hnc x y p2 hxp hpy (by omega) hn _ G3 HW5.out.1 HG3s.out)
                    go_wp2_with fail
                    refine HC.out.mono ?_
                    rintro e w6 ⟨⟨m, E, rfl, h6, hp6⟩, k6⟩
                    have hxm : x < m ∧ m ≤ y := ⟨hp6.2.1, hp6.2.2.1⟩
                    have H6 := Lib.hid (And.intro h6 (And.intro (pq_equal ltN_swo hax hyb (by have := HI.out.2.2.2.2.2; omega) hxp hpy HPQ.out (hT.out (by trivial)).1 (hT.out (by trivial)).2 hp6) (HW5.out.2.trans k6)))
                    clear h6 hp6 k6 HC
                    go_wp2_with fail
                    go_roundw
                    case rel => exact ⟨m, y, l2, _, _, E, by omega, hxm.2, hyb, hl2, rfl, rfl, rfl, rfl, rfl, ⟨H6.out.1, Lib.hid H6.out.2.1⟩, H6.out.2.2⟩
                    case measure => simp [intOf]; omega
end Go.Proofs.YtcljffldbnoljaaGreatDoor

namespace Go.Proofs.YtcljffldbnoljaaGreatDoor
open Go.RowKit Go.Sort Go.Lib

set_option maxRecDepth 100000 in
set_option maxHeartbeats 2000000 in
theorem sort_u32 (blk cp n : Nat) (hnc : n ≤ cp) (hn : n ≤ 1000) (w : World) (D : Array Nat) (hblk : blk < w.heap.size) (h : U32 w blk D) (hD : D.size = n) :
    Calls Tryz.prog 183 #[.slice (some ⟨blk, 0, none⟩) n cp] w (PdPostU blk D 0 n w) := by
  have hl : bitsLen n ≤ 10 := (bitsLen_le_iff n 10).2 (by omega)
  have hLen : ∀ w, Calls Tryz.prog 66 #[.int .u64 (n : Int)] w fun e w' => e = .returned (.int .i64 (bitsLen n : Nat)) ∧ w' = w := fun w => by
    have h := Tryz.bits_Len (n : Int) w (by omega) (by omega)
    rwa [Int.toNat_natCast, bitLen_eq _ (by omega)] at h
  have H := pdqsort_u32 w.heap.size blk cp n hblk hnc hn n 0 n (bitsLen n) (by omega) (Nat.zero_le _) (Nat.le_refl _) (by omega) w D (Nat.le_refl _) hblk h hD (Or.inl rfl)
  obtain ⟨l, hle⟩ : ∃ l, bitsLen n = l := ⟨_, rfl⟩
  rw [hle] at H
  have HL := Lib.hid hLen
  have HP := Lib.hid H
  have HE := Lib.hid hle
  have wr : IntKind.u64.wrap (n : Int) = (n : Int) := by rw [IntKind.wrap_u64]; omega
  clear h hLen H hl hle hblk
  go_enter Tryz.func183, Tryz.ntmps183
  go_wp2_with (first | (go_at_call 66; refine (HL.out _).mono ?_; rintro _ w1 ⟨rfl, rfl⟩; rw [HE.out]) | (go_at_call 202; refine HP.out.mono ?_; rintro _ w2 ⟨rfl, h2, k2⟩; replace h2 := Lib.hid (And.intro h2 k2); clear k2))
  exact bodyPost_ret (results_none rfl _ _ _) rfl ⟨rfl, h2.out⟩
end Go.Proofs.YtcljffldbnoljaaGreatDoor

namespace Go.Proofs.YtcljffldbnoljaaGreatDoor
open Go.RowKit Go.Sort

abbrev eU64 (x : Nat) : Value := .int .u64 (x : Nat)
/-- Block g holds the row d. -/
def U64 (w : World) (g : Nat) (d : Array Nat) : Prop := Holds eU64 w g 0 d

set_option maxRecDepth 100000 in
theorem cmpIsNaN_u64 (x : Int) (w : World) : Calls Tryz.prog 209 #[.int .u64 x] w fun e w' => e = .returned (.bool false) ∧ w' = w := by
  go_enter Tryz.func209, Tryz.ntmps209
  go_wp2_with fail
  exact bodyPost_ret (v := .bool false) (by simp [results, Tryz.results209, go_sem]) rfl ⟨rfl, rfl⟩
set_option maxRecDepth 100000 in
theorem cmpLess_u64 (x y : Nat) (w : World) : Calls Tryz.prog 199 #[eU64 x, eU64 y] w fun e w' => e = .returned (.bool (ltN x y)) ∧ w' = w := by
  have hx := cmpIsNaN_u64 (x : Int)
  have hd : decide ((x : Int) < (y : Int)) = ltN x y := by unfold ltN; congr 1; exact propext Int.ofNat_lt
  have hdN : decide (x < y) = ltN x y := rfl
  go_enter Tryz.func199, Tryz.ntmps199
  go_wp2_with (go_at_call 209; refine (hx _).mono ?_; rintro _ w1 ⟨rfl, rfl⟩)
  exact bodyPost_ret (v := .bool (ltN x y)) (by simp [results, Tryz.results199, go_sem]) rfl ⟨rfl, rfl⟩

theorem u64_drewN {w : World} {g q : Nat} {d : Array Nat} (h : U64 w g d) : U64 (w.drewN q) g d := fun t ht => h t ht
theorem u64_q {w W : World} {g q : Nat} {d : Array Nat} (h : U64 w g d) (e : w.drewN q = W) : U64 W g d := e ▸ u64_drewN h
theorem u64_old {w w' : World} {g : Nat} {d : Array Nat} (h : U64 w g d) (b : Below w.heap.size w w') : U64 w' g d := fun t ht => by
  have h1 := h t ht
  have hlt := World.block_lt_of_cell? w _ h1.1
  exact ⟨(b.cell (p := ⟨g, 0 + t, none⟩) hlt).trans h1.1, (b.frozen (p := ⟨g, 0 + t, none⟩) hlt).trans h1.2⟩
theorem u64_below {B : Nat} {w w' : World} {g : Nat} {d : Array Nat} (hg : g < B) (h : U64 w g d) (b : Below B w w') : U64 w' g d := fun t ht => by
  have h1 := h t ht
  exact ⟨(b.cell (p := ⟨g, 0 + t, none⟩) hg).trans h1.1, (b.frozen (p := ⟨g, 0 + t, none⟩) hg).trans h1.2⟩
theorem u64_swap {w : World} {g i j q : Nat} {d : Array Nat} (h : U64 w g d) (hi : i < d.size) (hj : j < d.size) : U64 (((w.drewN q).setCell ⟨g, i, none⟩ (eU64 d[j]!)).setCell ⟨g, j, none⟩ (eU64 d[i]!)) g (swp d i j) := by
  intro t ht
  rw [size_swp] at ht
  rw [Nat.zero_add]
  have ht0 := h t ht
  have hi0 := h i hi
  have hj0 := h j hj
  rw [Nat.zero_add] at ht0 hi0 hj0
  refine ⟨?_, by simpa using ht0.2⟩
  rw [swp_get d hi hj]
  by_cases c1 : t = j
  · subst c1
    rw [if_pos rfl]
    by_cases c2 : i = t
    · subst c2
      exact World.cell?_setCell_same _ _ _ (World.cell?_setCell_same _ _ _ hi0.1)
    · have e : ((w.drewN q).setCell ⟨g, i, none⟩ (eU64 d[t]!)).cell? ⟨g, t, none⟩ = some (eU64 d[t]!) := by
        rw [World.cell?_setCell_other _ _ _ _ (by intro e; simp only [Addr.mk.injEq, and_true, true_and] at e; omega)]
        exact hj0.1
      exact World.cell?_setCell_same _ _ _ e
  · rw [if_neg c1, World.cell?_setCell_other _ _ _ _ (by intro e; simp only [Addr.mk.injEq, and_true, true_and] at e; omega)]
    by_cases c2 : t = i
    · subst c2
      rw [if_pos rfl]
      exact World.cell?_setCell_same _ _ _ hi0.1
    · rw [if_neg c2, World.cell?_setCell_other _ _ _ _ (by intro e; simp only [Addr.mk.injEq, and_true, true_and] at e; omega)]
      exact ht0.1
/-- What reading places X and Y wants. -/
theorem u64_less {w : World} {g n X Y : Nat} {d : Array Nat} (h : U64 w g d) (hs : d.size = n) (hx : X < n) (hy : Y < n) : ∃ (vx vy : Nat) (bb : Bool), w.cell? ⟨g, X, none⟩ = some (.int .u64 (vx : Nat)) ∧ w.frozen? ⟨g, X, none⟩ = false ∧ w.cell? ⟨g, Y, none⟩ = some (.int .u64 (vy : Nat)) ∧ w.frozen? ⟨g, Y, none⟩ = false ∧
    (X : Int) < (n : Int) ∧ (Y : Int) < (n : Int) ∧ Hid (∀ W, Calls Tryz.prog 199 #[.int .u64 (vx : Nat), .int .u64 (vy : Nat)] W fun e w' => e = .returned (.bool bb) ∧ w' = W) ∧ Hid (ltN d[X]! d[Y]! = bb) := by
  have h1 := h X (by omega)
  have h2 := h Y (by omega)
  rw [Nat.zero_add] at h1 h2
  exact ⟨d[X]!, d[Y]!, _, h1.1, h1.2, h2.1, h2.2, by omega, by omega, Lib.hid fun W => cmpLess_u64 _ _ W, Lib.hid rfl⟩
/-- What swapping places X and Y wants and leaves. -/
theorem u64_swapF {w : World} {g n X Y : Nat} {d : Array Nat} (h : U64 w g d) (hs : d.size = n) (hx : X < n) (hy : Y < n) : ∃ vx vy : Nat, w.cell? ⟨g, X, none⟩ = some (.int .u64 (vx : Nat)) ∧ w.frozen? ⟨g, X, none⟩ = false ∧ w.cell? ⟨g, Y, none⟩ = some (.int .u64 (vy : Nat)) ∧ w.frozen? ⟨g, Y, none⟩ = false ∧
    (X : Int) < (n : Int) ∧ (Y : Int) < (n : Int) ∧ (w.setCell ⟨g, X, none⟩ (.int .u64 (vy : Nat))).cell? ⟨g, Y, none⟩ = some (.int .u64 (vy : Nat)) ∧ Hid (U64 (((w.setCell ⟨g, X, none⟩ (.int .u64 (vy : Nat))).setCell ⟨g, Y, none⟩ (.int .u64 (vx : Nat))).drew) g (swp d X Y) ∧ Kp [g] w (((w.setCell ⟨g, X, none⟩ (.int .u64 (vy : Nat))).setCell ⟨g, Y, none⟩ (.int .u64 (vx : Nat))).drew)) := by
  have h1 := h X (by omega)
  have h2 := h Y (by omega)
  rw [Nat.zero_add] at h1 h2
  have e : (w.setCell ⟨g, X, none⟩ (.int .u64 (d[Y]! : Nat))).cell? ⟨g, Y, none⟩ = some (.int .u64 (d[Y]! : Nat)) := by
    by_cases hxy : X = Y
    · subst hxy
      exact World.cell?_setCell_same _ _ _ h1.1
    · rw [World.cell?_setCell_other _ _ _ _ (by intro e; simp only [Addr.mk.injEq, and_true, true_and] at e; omega)]
      exact h2.1
  exact ⟨d[X]!, d[Y]!, h1.1, h1.2, h2.1, h2.2, by omega, by omega, e, Lib.hid ⟨u64_swap (q := 0) h (by omega) (by omega), (((Kp.refl [g] w).setCell (p := ⟨g, X, none⟩) (.inl (by simp)) _).setCell (p := ⟨g, Y, none⟩) (.inl (by simp)) _).drew⟩⟩
end Go.Proofs.YtcljffldbnoljaaGreatDoor
