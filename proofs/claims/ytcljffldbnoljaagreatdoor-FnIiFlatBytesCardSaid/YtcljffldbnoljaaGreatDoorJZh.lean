/-
  slices.pdqsort over a row of uint64: the row is sorted. Conditions: as the contract says.
  slices.Sort over a row of uint64: the row is sorted. Conditions: as the contract says.
  (*index.singleWidthIndex).Marshal; rows of numbers made of a map's keys, sorted. Conditions: as each contract says.
-/
import Derived.Test.YtcljffldbnoljaaGreatDoorJZa
import Derived.Test.YtcljffldbnoljaaGreatDoorZc
import Derived.Test.YtcljffldbnoljaaGreatDoorJZd
import Derived.Test.YtcljffldbnoljaaGreatDoorZf
import Derived.Test.YtcljffldbnoljaaGreatDoorZg
import Derived.Test.YtcljffldbnoljaaGreatDoorJVq
import Derived.Deep.Cut
import Derived.Deep.CutRange
import Derived.Deep.CutBlock
import Derived.Test.YtcljffldbnoljaaGreatDoorJJh
import Derived.Test.YtcljffldbnoljaaGreatDoorJQu
import Derived.Test.YtcljffldbnoljaaGreatDoorJYh
import Derived.Test.YtcljffldbnoljaaGreatDoorJQm
namespace Go.Proofs.YtcljffldbnoljaaGreatDoor
open Go.RowKit Go.Sort

def PdPostV (blk : Nat) (D : Array Nat) (a b : Nat) (w : World) (e : Ending) (w' : World) : Prop :=
  e = .returned (.tuple #[]) ∧ (∃ D', U64 w' blk D' ∧ PermIn a b D D' ∧ SortedIn ltN a b D') ∧ Kp [blk] w w'

set_option maxRecDepth 100000 in
set_option maxHeartbeats 16000000 in
theorem pdqsort_u64 (B blk cp n : Nat) (hBb : blk < B) (hnc : n ≤ cp) (hn : n ≤ 1000) : ∀ (q a b lim : Nat), b - a ≤ q → a ≤ b → b ≤ n → lim ≤ 1000 → ∀ (w : World) (D : Array Nat), B ≤ w.heap.size → blk < w.heap.size → U64 w blk D → D.size = n → Sort.Below ltN a b D →
    Calls Tryz.prog 182 #[.slice (some ⟨blk, 0, none⟩) n cp, .int .i64 a, .int .i64 b, .int .i64 lim] w (PdPostV blk D a b w) := by
  intro q
  induction q using Nat.strongRecOn with
  | _ q ih =>
  intro a b lim hq hab hb hlim w D hBw hblk h hD hBel
  have IH := Lib.hid ih
  have HI := Lib.hid (And.intro trivial (And.intro trivial (And.intro trivial (And.intro hBw (And.intro hblk hD)))))
  have H0 := Lib.hid (And.intro h hBel)
  clear ih h hBel hBw hblk hD
  go_enter Tryz.func182, Tryz.ntmps182
  go_wp2_with fail
  go_loopw [1, 2, 3, 8, 9] (fun va vb vl v8 v9 wr => ∃ (x y l : Nat) (wb wp : Bool) (G : Array Nat), a ≤ x ∧ x ≤ y ∧ y ≤ b ∧ l ≤ lim ∧ va = .int .i64 x ∧ vb = .int .i64 y ∧ vl = .int .i64 l ∧ v8 = .bool wb ∧ v9 = .bool wp ∧ (U64 wr blk G ∧ Hid (PQ ltN a b D x y G)) ∧ Kp [blk] w wr) (fun va vb _ _ _ _ => (intOf vb - intOf va).toNat)
  case atStart => exact ⟨a, b, lim, true, true, D, Nat.le_refl _, hab, Nat.le_refl _, Nat.le_refl _, rfl, rfl, rfl, rfl, rfl, ⟨H0.out.1, Lib.hid (pq_start H0.out.2)⟩, Kp.refl _ _⟩
  case round =>
    obtain ⟨x, y, l, wb, wp, G, hax, hxy, hyb, hll, rfl, rfl, rfl, rfl, rfl, ⟨hIn, hG⟩, hK⟩ := hrel
    obtain ⟨len, hlen⟩ : ∃ len : Nat, y - x = len := ⟨_, rfl⟩
    have hwl : IntKind.i64.wrap ((y : Int) - (x : Int)) = (len : Int) := by rw [IntKind.wrap_i64]; omega
    have HLn := Lib.hid hlen
    have HGs : Hid (G.size = n) := Lib.hid (hG.out.2.1.1.trans HI.out.2.2.2.2.2)
    have hwB : Hid (B ≤ wr.heap.size ∧ blk < wr.heap.size) := Lib.hid ⟨Nat.le_trans HI.out.2.2.2.1 hK.size, Nat.lt_of_lt_of_le HI.out.2.2.2.2.1 hK.size⟩
    clear hlen
    by_cases h12 : len ≤ 12
    · have d12 : decide ((len : Int) ≤ 12) = true := by rw [decide_eq_true_eq]; omega
      have d12N : decide (len ≤ 12) = true := by rw [decide_eq_true_eq]; omega
      have HC := Lib.hid (insertionSort_u64 blk cp n hnc x y hxy (by omega) hn wr G hIn HGs.out)
      have HK := Lib.hid hK
      clear hIn hK
      go_wp2_with fail
      refine HC.out.mono ?_
      rintro e w2 ⟨rfl, h2, k2⟩
      have H2 := Lib.hid (And.intro h2 (HK.out.trans k2))
      clear h2 k2 HC
      go_wp2_with fail
      have hs := insertionSort_holds (lt := ltN) ltN_swo G x y hxy (by have := HGs.out; omega)
      refine bodyPost_ret (results_none rfl _ _ _) rfl ⟨rfl, ⟨_, H2.out.1, ?_⟩, H2.out.2⟩
      exact pq_end hax hyb (by have := HI.out.2.2.2.2.2; omega) hG.out hs.1 hs.2
    · have d12 : decide ((len : Int) ≤ 12) = false := by rw [decide_eq_false_iff_not]; omega
      have d12N : decide (len ≤ 12) = false := by rw [decide_eq_false_iff_not]; omega
      have hxy' : x < y := by have := HLn.out; omega
      by_cases hl0 : l = 0
      · subst hl0
        have HC := Lib.hid (heapSort_u64 blk cp n hnc x y hxy' (by omega) hn wr G hIn HGs.out)
        have HK := Lib.hid hK
        clear hIn hK
        go_wp2_with fail
        refine HC.out.mono ?_
        rintro e w2 ⟨rfl, h2, k2⟩
        have H2 := Lib.hid (And.intro h2 (HK.out.trans k2))
        clear h2 k2 HC
        go_wp2_with fail
        have hs := heapSort_holds (lt := ltN) ltN_swo G x y hxy (by have := HGs.out; omega)
        refine bodyPost_ret (results_none rfl _ _ _) rfl ⟨rfl, ⟨_, H2.out.1, ?_⟩, H2.out.2⟩
        exact pq_end hax hyb (by have := HI.out.2.2.2.2.2; omega) hG.out hs.1 hs.2
      · have hl0I : ((l : Int) == 0) = false := by rw [beq_eq_false_iff_ne]; omega
        have hl0N : (l == 0) = false := by rw [beq_eq_false_iff_ne]; omega
        have hl0n : ¬ (l : Int) = 0 := by omega
        have hlw : IntKind.i64.wrap ((l : Int) - 1) = ((l - 1 : Nat) : Int) := by rw [IntKind.wrap_i64]; omega
        obtain ⟨l1, hl1⟩ : ∃ l1, l - 1 = l1 := ⟨_, rfl⟩
        rw [hl1] at hlw
        have HL1 := Lib.hid hl1
        have HW := Lib.hid (And.intro hIn hK)
        clear hIn hK hl1
        go_upto_if 35 with fail
        go_cut [3] from 19 to 133 (fun s3 wx => ∃ (l2 : Nat) (G1 : Array Nat), l2 ≤ lim ∧ s3 = .int .i64 l2 ∧ (U64 wx blk G1 ∧ Hid (PermIn x y G G1)) ∧ Kp [blk] w wx)
        case first =>
          cases wb
          · have HC := Lib.hid (breakPatterns_u64 B blk cp n hBb hnc x y hxy' (by omega) hn wr hwB.out.1 hwB.out.2 G HW.out.1 HGs.out)
            go_wp2_with fail
            refine HC.out.mono ?_
            rintro e w2 ⟨rfl, ⟨G1, h2, hp2⟩, k2⟩
            have H2 := Lib.hid (And.intro h2 (And.intro hp2 (HW.out.2.trans k2)))
            clear h2 hp2 k2 HC
            go_wp2_with fail
            go_meet
            case rel => exact ⟨l1, G1, by have := HL1.out; omega, rfl, ⟨H2.out.1, Lib.hid H2.out.2.1⟩, H2.out.2.2⟩
          · go_wp2_with fail
            go_meet
            case rel => exact ⟨l, G, hll, rfl, ⟨HW.out.1, Lib.hid (permIn_refl _ _ _)⟩, HW.out.2⟩
        case rest =>
          obtain ⟨l2, G1, hl2, rfl, ⟨hIn, hG1⟩, hK⟩ := hcut
          have HG1s : Hid (G1.size = n) := Lib.hid (hG1.out.1.trans HGs.out)
          have HC := Lib.hid (choosePivot_u64 B blk cp n hBb hnc x y hxy' (by omega) hn wc (Nat.le_trans HI.out.2.2.2.1 hK.size) G1 hIn HG1s.out)
          have HK := Lib.hid hK
          clear hIn hK
          go_upto_if 50 with (go_at_call 196; refine HC.out.mono ?_; rintro _ w2 ⟨⟨p, h, hp1, hp2, hh, rfl⟩, h2, k2⟩; replace h2 := Lib.hid (And.intro h2 (HK.out.trans (Kp.of_below k2 [blk]))); clear k2)
          clear HC HK
          go_cut [11, 12] from 19 to 133 (fun s11 s12 wx => ∃ (p2 : Nat) (h3 : Int) (G2 : Array Nat), x ≤ p2 ∧ p2 < y ∧ s11 = .int .i64 p2 ∧ s12 = .int .i64 h3 ∧ (U64 wx blk G2 ∧ Hid (PermIn x y G G2)) ∧ Kp [blk] w wx)
          case first =>
            by_cases hd2 : h = 2
            · subst hd2
              have HC := Lib.hid (reverseRange_u64 blk cp n hnc x y hxy' (by omega) hn w2 G1 h2.out.1 HG1s.out)
              obtain ⟨p2, hp2e⟩ : ∃ p2 : Nat, (y - 1) - (p - x) = p2 := ⟨_, rfl⟩
              obtain ⟨y1, hy1⟩ : ∃ y1 : Nat, y - 1 = y1 := ⟨_, rfl⟩
              obtain ⟨px, hpx⟩ : ∃ px : Nat, p - x = px := ⟨_, rfl⟩
              have hw1 : IntKind.i64.wrap ((y : Int) - 1) = (y1 : Int) := by rw [IntKind.wrap_i64]; omega
              have hw2 : IntKind.i64.wrap ((p : Int) - (x : Int)) = (px : Int) := by rw [IntKind.wrap_i64]; omega
              have hw3 : IntKind.i64.wrap ((y1 : Int) - (px : Int)) = (p2 : Int) := by rw [IntKind.wrap_i64]; omega
              have hpb : x ≤ p2 ∧ p2 < y := by omega
              clear hp2e hy1 hpx
              go_wp2_with fail
              refine HC.out.mono ?_
              rintro e w3 ⟨rfl, ⟨G2, h3, hp3⟩, k3⟩
              have H3 := Lib.hid (And.intro h3 (And.intro hp3 (h2.out.2.trans k3)))
              clear h3 hp3 k3 HC
              go_wp2_with fail
              go_meet
              case rel => exact ⟨p2, 1, G2, hpb.1, hpb.2, rfl, rfl, ⟨H3.out.1, Lib.hid (permIn_trans _ _ _ _ _ hG1.out H3.out.2.1)⟩, H3.out.2.2⟩
            · have hd2b : (h == 2) = false := by rw [beq_eq_false_iff_ne]; exact hd2
              go_wp2_with fail
              go_meet
              case rel => exact ⟨p, h, G1, hp1, hp2, rfl, rfl, ⟨h2.out.1, hG1⟩, h2.out.2⟩
          case rest =>
            clear h2 hp1 hp2 hh
            obtain ⟨p2, h3, G2, hxp, hpy, rfl, rfl, ⟨hIn, hG2⟩, hK⟩ := hcut
            have HW2 := Lib.hid (And.intro hIn hK)
            clear hIn hK
            have HG2s : Hid (G2.size = n) := Lib.hid (hG2.out.1.trans HGs.out)
            go_upto_region 15 with fail
            go_cut [68] from 19 to 133 (fun s68 wx => (∃ tb : Bool, s68 = .bool tb) ∧ (U64 wx blk G2 ∧ Kp [blk] w wx))
            case first =>
              cases wb
              · go_wp2_with fail
                go_meet
                case rel => exact ⟨⟨_, rfl⟩, HW2.out⟩
              · cases wp
                · go_wp2_with fail
                  go_meet
                  case rel => exact ⟨⟨_, rfl⟩, HW2.out⟩
                · go_wp2_with fail
                  go_meet
                  case rel => exact ⟨⟨_, rfl⟩, HW2.out⟩
            case rest =>
              obtain ⟨⟨tb, rfl⟩, hW3⟩ := hcut
              have HW3 := Lib.hid hW3
              clear hW3 HW2
              go_upto_if 68 with fail
              go_cut [] from 19 to 133 (fun wx => ∃ G3 : Array Nat, (U64 wx blk G3 ∧ Hid (PermIn x y G G3)) ∧ Kp [blk] w wx)
              case first =>
                cases tb
                · go_wp2_with fail
                  go_meet
                  case rel => exact ⟨G2, ⟨HW3.out.1, hG2⟩, HW3.out.2⟩
                · have HC := Lib.hid (partialInsertionSort_u64 blk cp n hnc x y hxy' (by omega) hn _ G2 HW3.out.1 HG2s.out)
                  go_wp2_with fail
                  refine HC.out.mono ?_
                  rintro e w4 ⟨⟨G3, r, hpe, rfl, h4⟩, k4⟩
                  have hs := partialInsertionSort_holds (lt := ltN) ltN_swo G2 x y hxy' (by have := HG2s.out; omega) (Below.perm hG.out.1 (by have := HGs.out; omega) hG2.out)
                  rw [hpe] at hs
                  have H4 := Lib.hid (And.intro h4 (And.intro (HW3.out.2.trans k4) hs))
                  clear h4 k4 HC hpe
                  cases r
                  · go_wp2_with fail
                    go_meet
                    case rel => exact ⟨G3, ⟨H4.out.1, Lib.hid (permIn_trans _ _ _ _ _ hG2.out H4.out.2.2.1)⟩, H4.out.2.1⟩
                  · go_wp2_with fail
                    refine bodyPost_ret (results_none rfl _ _ _) rfl ⟨rfl, ⟨G3, H4.out.1, ?_⟩, H4.out.2.1⟩
                    exact pq_end hax hyb (by have := HI.out.2.2.2.2.2; omega) hG.out (permIn_trans _ _ _ _ _ hG2.out H4.out.2.2.1) (H4.out.2.2.2 (by trivial))
              case rest =>
                obtain ⟨G3, ⟨hIn, hG3⟩, hK⟩ := hcut
                have HW4 := Lib.hid (And.intro hIn hK)
                have HG3s : Hid (G3.size = n) := Lib.hid (hG3.out.1.trans HGs.out)
                have HPQ : Hid (PQ ltN a b D x y G3) := Lib.hid (pq_perm hax hyb (by have := HI.out.2.2.2.2.2; omega) hG.out hG3.out)
                clear hIn hK HW3 hG3
                go_upto_region 17 with fail
                go_cut [87] from 19 to 133 (fun s87 wx => (∃ tb : Bool, s87 = .bool tb ∧ Hid (tb = true → 0 < x ∧ ltN G3[x - 1]! G3[p2]! = false)) ∧ (U64 wx blk G3 ∧ Kp [blk] w wx))
                case first =>
                  by_cases hx0 : 0 < x
                  · have dx : decide ((0 : Int) < (x : Int)) = true := by rw [decide_eq_true_eq]; omega
                    have dxN : decide (0 < x) = true := by rw [decide_eq_true_eq]; omega
                    obtain ⟨x1, hx1⟩ : ∃ x1 : Nat, x - 1 = x1 := ⟨_, rfl⟩
                    have hw1 : IntKind.i64.wrap ((x : Int) - 1) = (x1 : Int) := by rw [IntKind.wrap_i64]; omega
                    obtain ⟨vx, vy, bb0, qc1, qf1, qc2, qf2, qi1, qi2, hcl0, HB0⟩ := u64_less (X := x1) (Y := p2) HW4.out.1 HG3s.out (by omega) (by omega)
                    have HCl := Lib.hid hcl0
                    have HR0 := Lib.hid (HW4.out.1)
                    clear hcl0
                    have HX1 := Lib.hid hx1
                    clear hx1
                    go_wp2_with fail
                    go_quiet (first | (go_at_call 199; exact Calls.quiet_of_same (HCl.out _)))
                    obtain ⟨w5, hww⟩ : ∃ W, World.drewN wc nq = W := ⟨_, rfl⟩
                    rw [hww]
                    have h5 : U64 w5 blk G3 := hww ▸ u64_drewN HR0.out
                    have b5 : RowKit.Below (World.heap wc).size wc w5 := hww ▸ below_drewN (RowKit.Below.refl _ _) _
                    clear hww qc1 qf1 qc2 qf2 qi1 qi2
                    have H5 := Lib.hid (And.intro h5 (HW4.out.2.old b5))
                    obtain ⟨bb, hbb⟩ : ∃ B, bb0 = B := ⟨_, rfl⟩
                    rw [hbb]
                    have HB := Lib.hid (HB0.out.trans hbb)
                    clear h5 b5 hbb
                    cases bb
                    · go_wp2_with fail
                      go_meet
                      case rel => exact ⟨⟨true, rfl, Lib.hid fun _ => ⟨hx0, by rw [HX1.out]; exact HB.out⟩⟩, H5.out⟩
                    · go_wp2_with fail
                      go_meet
                      case rel => exact ⟨⟨false, rfl, Lib.hid fun hc => by cases hc⟩, H5.out⟩
                  · have dx : decide ((0 : Int) < (x : Int)) = false := by rw [decide_eq_false_iff_not]; omega
                    have dxN : decide (0 < x) = false := by rw [decide_eq_false_iff_not]; omega
                    go_wp2_with fail
                    go_quiet (fail)
                    go_wp2_with fail
                    go_meet
                    case rel => exact ⟨⟨false, rfl, Lib.hid fun hc => by cases hc⟩, u64_drewN HW4.out.1, HW4.out.2.drewN nq⟩
                case rest =>
                  obtain ⟨⟨tb, rfl, hT⟩, hW5⟩ := hcut
                  have HW5 := Lib.hid hW5
                  clear hW5 HW4
                  cases tb
                  · have HC := Lib.hid (partition_u64 blk cp n hnc x y p2 hxp hpy (by omega) hn _ G3 HW5.out.1 HG3s.out)
                    go_wp2_with fail
                    refine HC.out.mono ?_
                    rintro e w6 ⟨⟨m, E, ap, rfl, h6, hp6⟩, k6⟩
                    have H6 := Lib.hid (And.intro h6 (And.intro hp6 (HW5.out.2.trans k6)))
                    have hxm : x ≤ m ∧ m < y := ⟨hp6.2.1, hp6.2.2.1⟩
                    clear h6 hp6 k6 HC
                    have HBs := Lib.hid (pq_belows hax hyb (by have := HI.out.2.2.2.2.2; omega) HPQ.out H6.out.2.1)
                    have HEs : Hid (E.size = n) := Lib.hid (H6.out.2.1.1.1.trans HG3s.out)
                    obtain ⟨ll, hll2⟩ : ∃ ll : Nat, m - x = ll := ⟨_, rfl⟩
                    obtain ⟨rl, hrl⟩ : ∃ rl : Nat, y - m = rl := ⟨_, rfl⟩
                    obtain ⟨bt, hbt⟩ : ∃ bt : Nat, len / 8 = bt := ⟨_, rfl⟩
                    obtain ⟨m1, hm1⟩ : ∃ m1 : Nat, m + 1 = m1 := ⟨_, rfl⟩
                    have hw1 : IntKind.i64.wrap ((m : Int) - (x : Int)) = (ll : Int) := by rw [IntKind.wrap_i64]; omega
                    have hw2 : IntKind.i64.wrap ((y : Int) - (m : Int)) = (rl : Int) := by rw [IntKind.wrap_i64]; omega
                    have hw3 : (len : Int) / 8 = (bt : Int) := by omega
                    have hw3' : Int.tdiv (len : Int) 8 = (bt : Int) := by rw [Int.tdiv_eq_ediv_of_nonneg (by omega)]; omega
                    have hw3w : IntKind.i64.wrap (bt : Int) = (bt : Int) := by have := HLn.out; rw [IntKind.wrap_i64]; omega
                    have hw4 : IntKind.i64.wrap ((m : Int) + 1) = (m1 : Int) := by rw [IntKind.wrap_i64]; omega
                    have HM := Lib.hid (And.intro hll2 (And.intro hrl hm1))
                    have hB6 : Hid (B ≤ w6.heap.size ∧ blk < w6.heap.size) := Lib.hid ⟨Nat.le_trans HI.out.2.2.2.1 H6.out.2.2.size, Nat.lt_of_lt_of_le HI.out.2.2.2.2.1 H6.out.2.2.size⟩
                    have hmb : x ≤ m ∧ m < m1 ∧ m1 ≤ y := by omega
                    by_cases hlr : ll < rl
                    · have dlr : decide ((ll : Int) < (rl : Int)) = true := by rw [decide_eq_true_eq]; omega
                      have dlrN : decide (ll < rl) = true := by rw [decide_eq_true_eq]; omega
                      have HC := Lib.hid (IH.out (m - x) (by have := HM.out; have := HLn.out; omega) x m l2 (Nat.le_refl _) hmb.1 (by omega) (by omega) w6 E hB6.out.1 hB6.out.2 H6.out.1 HEs.out HBs.out.1)
                      clear hll2 hrl hbt hm1
                      go_wp2_with fail
                      refine HC.out.mono ?_
                      rintro e w7 ⟨rfl, ⟨L, h7, hp7, hs7⟩, k7⟩
                      have H7 := Lib.hid (And.intro h7 (And.intro (pq_left ltN_swo hax hyb (by have := HI.out.2.2.2.2.2; omega) HPQ.out H6.out.2.1 hp7 hs7) (H6.out.2.2.trans k7)))
                      clear h7 hp7 hs7 k7 HC
                      go_wp2_with fail
                      go_roundw
                      case rel => exact ⟨m1, y, l2, _, _, L, by omega, by omega, hyb, hl2, rfl, rfl, rfl, rfl, rfl, ⟨H7.out.1, Lib.hid (by rw [← HM.out.2.2]; exact H7.out.2.1)⟩, H7.out.2.2⟩
                      case measure => simp [intOf]; omega
                    · have dlr : decide ((ll : Int) < (rl : Int)) = false := by rw [decide_eq_false_iff_not]; omega
                      have dlrN : decide (ll < rl) = false := by rw [decide_eq_false_iff_not]; omega
                      have HC := Lib.hid (IH.out (y - m1) (by have := HM.out; have := HLn.out; omega) m1 y l2 (Nat.le_refl _) hmb.2.2 (by omega) (by omega) w6 E hB6.out.1 hB6.out.2 H6.out.1 HEs.out (by rw [← HM.out.2.2]; exact HBs.out.2))
                      clear hll2 hrl hbt hm1
                      go_wp2_with fail
                      refine HC.out.mono ?_
                      rintro e w7 ⟨rfl, ⟨L, h7, hp7, hs7⟩, k7⟩
                      rw [← HM.out.2.2] at hp7 hs7
                      have H7 := Lib.hid (And.intro h7 (And.intro (pq_right ltN_swo hax hyb (by have := HI.out.2.2.2.2.2; omega) HPQ.out H6.out.2.1 hp7 hs7) (H6.out.2.2.trans k7)))
                      clear h7 hp7 hs7 k7 HC
                      go_wp2_with fail
                      go_roundw
                      case rel => exact ⟨x, m, l2, _, _, L, hax, by omega, by omega, hl2, rfl, rfl, rfl, rfl, rfl, ⟨H7.out.1, Lib.hid H7.out.2.1⟩, H7.out.2.2⟩
                      case measure => simp [intOf]; omega
                  · have HC := Lib.hid (partitionEqual_u64 blk cp n hnc x y p2 hxp hpy (by omega) hn _ G3 HW5.out.1 HG3s.out)
                    go_wp2_with fail
                    refine HC.out.mono ?_
                    rintro e w6 ⟨⟨m, E, rfl, h6, hp6⟩, k6⟩
                    have hxm : x < m ∧ m ≤ y := ⟨hp6.2.1, hp6.2.2.1⟩
                    have H6 := Lib.hid (And.intro h6 (And.intro (pq_equal ltN_swo hax hyb (by have := HI.out.2.2.2.2.2; omega) hxp hpy HPQ.out (hT.out (by trivial)).1 (hT.out (by trivial)).2 hp6) (HW5.out.2.trans k6)))
                    clear h6 hp6 k6 HC
                    go_wp2_with fail
                    go_roundw
                    case rel => exact ⟨m, y, l2, _, _, E, by omega, hxm.2, hyb, hl2, rfl, rfl, rfl, rfl, rfl, ⟨H6.out.1, Lib.hid H6.out.2.1⟩, H6.out.2.2⟩
                    case measure => simp [intOf]; omega
end Go.Proofs.YtcljffldbnoljaaGreatDoor

namespace Go.Proofs.YtcljffldbnoljaaGreatDoor
open Go.RowKit Go.Sort Go.Lib

set_option maxRecDepth 100000 in
set_option maxHeartbeats 2000000 in
theorem sort_u64 (blk cp n : Nat) (hnc : n ≤ cp) (hn : n ≤ 1000) (w : World) (D : Array Nat) (hblk : blk < w.heap.size) (h : U64 w blk D) (hD : D.size = n) :
    Calls Tryz.prog 177 #[.slice (some ⟨blk, 0, none⟩) n cp] w (PdPostV blk D 0 n w) := by
  have hl : bitsLen n ≤ 10 := (bitsLen_le_iff n 10).2 (by omega)
  have hLen : ∀ w, Calls Tryz.prog 66 #[.int .u64 (n : Int)] w fun e w' => e = .returned (.int .i64 (bitsLen n : Nat)) ∧ w' = w := fun w => by
    have h := Tryz.bits_Len (n : Int) w (by omega) (by omega)
    rwa [Int.toNat_natCast, bitLen_eq _ (by omega)] at h
  have H := pdqsort_u64 w.heap.size blk cp n hblk hnc hn n 0 n (bitsLen n) (by omega) (Nat.zero_le _) (Nat.le_refl _) (by omega) w D (Nat.le_refl _) hblk h hD (Or.inl rfl)
  obtain ⟨l, hle⟩ : ∃ l, bitsLen n = l := ⟨_, rfl⟩
  rw [hle] at H
  have HL := Lib.hid hLen
  have HP := Lib.hid H
  have HE := Lib.hid hle
  have wr : IntKind.u64.wrap (n : Int) = (n : Int) := by rw [IntKind.wrap_u64]; omega
  clear h hLen H hl hle hblk
  go_enter Tryz.func177, Tryz.ntmps177
  go_wp2_with (first | (go_at_call 66; refine (HL.out _).mono ?_; rintro _ w1 ⟨rfl, rfl⟩; rw [HE.out]) | (go_at_call 182; refine HP.out.mono ?_; rintro _ w2 ⟨rfl, h2, k2⟩; replace h2 := Lib.hid (And.intro h2 k2); clear k2))
  exact bodyPost_ret (results_none rfl _ _ _) rfl ⟨rfl, h2.out⟩
end Go.Proofs.YtcljffldbnoljaaGreatDoor

namespace Go.Proofs.YtcljffldbnoljaaGreatDoor
open Go.RowKit Go.Sort Go.Lib

set_option maxRecDepth 100000 in
set_option maxHeartbeats 4000000 in
theorem swMarshal_any (b : Nat) (row : Option Nat) (l : List UInt8) (p k nb gc cap : Nat) (R : List UInt8) (w : World) (h : BuS w b row l) (c0 : w.cell? ⟨p, 0, none⟩ = some (.int .u32 (k : Nat))) (c2 : w.cell? ⟨p, 2, none⟩ = some (.slice (some ⟨gc, 0, none⟩) nb cap)) (hp : p ∉ b :: row.toList) (hg : gc ∉ b :: row.toList) (hs : Bs w gc 0 R) (hgc : gc < w.heap.size) (hn : nb = R.length) (hnc : nb ≤ cap) (hk : k < 4294967296) (hnb : nb ≤ 1000000) (hlim : l.length ≤ 800000000) :
    Calls Tryz.prog 184 #[.pointer (some ⟨p, 0, none⟩), .iface 78 (.pointer (some ⟨b, 0, none⟩))] w (WtPost b row l (Lib.leBytes 4 k ++ Lib.leBytes 8 nb ++ R) w (.tuple #[.int .u64 (12 + nb : Nat), .nilIface])) := by
  have hpw := World.block_lt_of_cell? w _ c0
  have HA := Lib.hid (zzWrite32_any b row l k w h hk (by omega))
  have H := Lib.hid (And.intro hp (And.intro hg (And.intro hs (And.intro hgc (And.intro hn hlim)))))
  have hwr := hWrite
  have hwl : IntKind.u64.wrap (nb : Int) = (nb : Int) := by rw [IntKind.wrap_u64]; omega
  have hnbI : (nb : Int) ≤ 1000000 := by omega
  clear hp hg hs hgc hn h hk hlim
  go_enter Tryz.func184, Tryz.ntmps184
  go_wp2_with fail
  refine HA.out.mono ?_
  rintro e w1 ⟨rfl, r1, hB1, hT1⟩
  have d2 : w1.cell? ⟨p, 2, none⟩ = some (.slice (some ⟨gc, 0, none⟩) nb cap) := (hT1.1.cell (p := ⟨p, 2, none⟩) hpw H.out.1).trans c2
  have HA1 := Lib.hid (zzWrite64_any b r1 _ nb w1 hB1 (by omega) (by rw [List.length_append, Lib.leBytes_length]; have := H.out.2.2.2.2.2; omega))
  have H1 := Lib.hid hT1
  clear hB1 hT1 HA c0 c2
  go_wp2_with fail
  refine HA1.out.mono ?_
  rintro e w2 ⟨rfl, r2, hB2, hT2⟩
  have hT02 := H1.out.trans hT2
  have d2 : w2.cell? ⟨p, 2, none⟩ = some (.slice (some ⟨gc, 0, none⟩) nb cap) := (hT2.1.cell (p := ⟨p, 2, none⟩) (World.block_lt_of_cell? w1 _ d2) (H1.out.apart hpw H.out.1)).trans d2
  have hdr : Below w2.heap.size w2 w2.drew := RowKit.Below.drew (Below.refl _ _)
  have HA2 := Lib.hid (bufWrite_wt b r2 _ R gc 0 nb cap w2.drew (hB2.old hdr) ((H.out.2.2.1.kp hT02.1 H.out.2.1).old hdr) H.out.2.2.2.2.1 hnc (hT02.apart H.out.2.2.2.1 H.out.2.1) (by rw [List.length_append, List.length_append, Lib.leBytes_length, Lib.leBytes_length]; have := H.out.2.2.2.2.2; have := H.out.2.2.2.2.1; omega))
  have H2 := Lib.hid (hT02.old hdr)
  have hna : ∀ v W, (nilAhead 399 78 v "Write").run Tryz.prog W = .ok (some false) W := fun _ _ => by kernel_rfl
  clear hB2 hT02 hT2 HA1 hdr
  go_wp2_with fail
  go_region_with (go_at_call 157; refine HA2.out.mono ?_; rintro _ w3 ⟨rfl, r3, hB3, hT3⟩; have H3 := Lib.hid (And.intro hB3 (H2.out.trans hT3)); clear hB3 hT3)
  all_goals go_wp2_with fail
  all_goals
    refine bodyPost_ret (v := .tuple #[.int .u64 (12 + nb : Nat), .nilIface]) (by simp [results, Tryz.results184, go_sem]; try omega) rfl ⟨rfl, r3, ?_, H3.out.2⟩
    have := H3.out.1
    simpa [List.append_assoc] using this

theorem u32T : ∃ i0, Tryz.prog.info? 172 = some i0 ∧ i0.zero = some (.int .u32 0) ∧ i0.size = 1 ∧ i0.bytes = 4 := ⟨(Tryz.prog.info? 172).get (by kernel_rfl), by kernel_rfl, by kernel_rfl, by kernel_rfl, by kernel_rfl⟩
theorem wpList_u321 {ops : Array Oper} {rest : List Oper} {o : Oper} {a : Act} {Q : Exit → Act → World → Prop} (w : World) (hgd : o.guard = none) (s x : Operand)
    (ho : o.op = .call { callee := .builtin .append, args := #[s, x], argTypes := #[262, 262] }) (hot : o.type = 262)
    (v : Value) (l : List Int) (hs : a.eval s = v) (X : Int) (k : Nat) (hx : a.eval x = .slice (some ⟨k, 0, none⟩) 1 1) (hk : k = w.heap.size) (h : OwnN .u32 w v l) (hn : l.length + 1 ≤ 1000000000)
    (K : ∀ v' w', OwnN .u32 w' v' (l ++ [X]) → AppT w w' v v' → wpList Tryz.prog ops Q rest (a.put o.dst v') w') : wpList Tryz.prog ops Q (o :: rest) a (w.alloc (.cells #[.int .u32 X] 172)) := by
  subst hk
  obtain ⟨i0, h1, h2, h3, h4⟩ := u32T
  exact wpList_lit w hgd s x 262 172 (l.map (Value.int .u32)) [.int .u32 X] ho hot i0 _ 1 4 Tryz.underlying262 h1 h2 h3 h4 rfl (by decide) v l.length hs h hx rfl (by simp [Value.oneCell']) hn (by decide)
    (fun v' w' hR' hT => K v' w' (by unfold OwnN; simpa using hR') hT)

theorem rowV_mk (w : World) (t : TypeId) (n : Nat) (v : Value) (hn : n ≤ 100000) : RowV (w.alloc (.cells (List.replicate n v).toArray t)) 1 (.slice (some ⟨w.heap.size, 0, none⟩) 0 n) 0 [] := by
  have hB := Blk.new w t (List.replicate n v).toArray
  refine ⟨by simp, .inr ⟨w.heap.size, n, rfl, hB.lt, Nat.zero_le _, by unfold maxLen; omega, fun j u hu => by simp at hu, fun i hi => ⟨?_, hB.frozen i⟩⟩⟩
  rw [hB.cell]
  simp at hi
  simp [hi]
theorem mk_u32s (n : Nat) (hn : n ≤ 100000) (W : World) : (Instr.makeSlice 262 (.int .i64 0) (.int .i64 n)).run Tryz.prog W = .ok (.slice (some ⟨W.heap.size, 0, none⟩) 0 n) (W.alloc (.cells (List.replicate n (.int .u32 0)).toArray 172)) := by
  obtain ⟨i0, hi, hz0, hz1, hz2⟩ := u32T
  have hr := run_make (P := Tryz.prog) W 262 172 i0 (.int .u32 0) Tryz.underlying262 hi hz0 .i64 .i64 0 n (by omega) (by omega) (by rw [hz2]; omega) (by omega)
  have ht0 : madeCells #[Value.int .u32 0] n = (List.replicate n (Value.int .u32 0)).toArray := by
    rw [← toList_madeCells_one (.int .u32 0) n]
  rw [← ht0]
  simpa [hz1, Value.cells] using hr
theorem mk_u64s (n : Nat) (hn : n ≤ 100000) (W : World) : (Instr.makeSlice 82 (.int .i64 0) (.int .i64 n)).run Tryz.prog W = .ok (.slice (some ⟨W.heap.size, 0, none⟩) 0 n) (W.alloc (.cells (List.replicate n (.int .u64 0)).toArray 25)) := by
  obtain ⟨i0, hi, hz0, hz1, hz2⟩ := u64T
  have hr := run_make (P := Tryz.prog) W 82 25 i0 (.int .u64 0) Tryz.underlying82 hi hz0 .i64 .i64 0 n (by omega) (by omega) (by rw [hz2]; omega) (by omega)
  have ht0 : madeCells #[Value.int .u64 0] n = (List.replicate n (Value.int .u64 0)).toArray := by
    rw [← toList_madeCells_one (.int .u64 0) n]
  rw [← ht0]
  simpa [hz1, Value.cells] using hr

/-- A row of numbers that is not empty, as the sorts want it. -/
theorem ownN_sort {K : IntKind} {w : World} {v : Value} {l : List Int} (h : OwnN K w v l) (hne : l ≠ []) (h0 : ∀ x ∈ l, 0 ≤ x) : ∃ g c, ∃ D : Array Nat, v = .slice (some ⟨g, 0, none⟩) l.length c ∧ l.length ≤ c ∧ g < w.heap.size ∧ D.size = l.length ∧ D.toList.map (Int.ofNat) = l ∧ ∀ t, t < D.size → w.cell? ⟨g, 0 + t, none⟩ = some (.int K (D[t]! : Nat)) ∧ w.frozen? ⟨g, 0 + t, none⟩ = false := by
  obtain ⟨hp, ⟨_, h1⟩ | ⟨g, cap, rfl, hg, h2, h3, h4, h5⟩⟩ := h
  · exact absurd (List.eq_nil_of_length_eq_zero h1) hne
  · have e0 : (l.map Int.toNat).map Int.ofNat = l := by
      rw [List.map_map]
      conv => rhs; rw [← List.map_id l]
      refine List.map_congr_left fun x hx => ?_
      have := h0 x hx
      simp only [Function.comp, id]
      exact Int.toNat_of_nonneg this
    refine ⟨g, cap, (l.map Int.toNat).toArray, rfl, h2, hg, by simp, by simpa using e0, fun t ht => ?_⟩
    have ht2 : t < l.length := by simpa using ht
    have e1 : (((l.map Int.toNat).toArray[t]! : Nat) : Int) = l[t] := by
      rw [getElem!_pos _ t ht]
      simp only [List.getElem_toArray, List.getElem_map]
      exact Int.toNat_of_nonneg (h0 _ (List.getElem_mem ht2))
    rw [Nat.zero_add, e1]
    exact ⟨h4 t _ (by simp [ht2]), (h5 t (by omega)).2⟩
/-- The keys, sorted. -/
theorem keysS_sorted {key : EntL → Int} {L : List EntL} {lk ls : List Int} {D D' : Array Nat} (hk : ∀ y, y ∈ lk ↔ ∃ x ∈ L, key x = y) (hnd : lk.Nodup) (hp : ls.Perm lk) (hD : D.toList.map Int.ofNat = ls) (hP : D'.toList.Perm D.toList) (hS : D'.toList.Pairwise (fun a b => ltN b a = false)) : KeysS key L (D'.toList.map Int.ofNat) := by
  have hp2 : (D'.toList.map Int.ofNat).Perm lk := (hP.map Int.ofNat).trans (hD ▸ hp)
  have hn2 : (D'.toList.map Int.ofNat).Nodup := hp2.nodup_iff.2 hnd
  refine ⟨?_, fun x => by rw [hp2.mem_iff, hk]⟩
  have h1 : (D'.toList.map Int.ofNat).Pairwise (· ≤ ·) := by
    rw [List.pairwise_map]
    exact hS.imp (fun h => by simp only [ltN, decide_eq_false_iff_not] at h; exact Int.ofNat_le.2 (by omega))
  exact (h1.and hn2).imp (by rintro a b ⟨h1, h2⟩; omega)
end Go.Proofs.YtcljffldbnoljaaGreatDoor
