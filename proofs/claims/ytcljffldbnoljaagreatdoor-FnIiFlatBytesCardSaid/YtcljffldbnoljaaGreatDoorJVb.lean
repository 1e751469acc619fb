/-
  sort.siftDown, sort.heapSort over index.recordSet, whatever order they sort by: the very row that they leave. Conditions: as each contract says.
  What the rounds of a partition keep of a row, and what they leave. Conditions: the places lie within the row; the order is a strict weak one.
-/
import Derived.Test.YtcljffldbnoljaaGreatDoorJJc
import Derived.Test.YtcljffldbnoljaaGreatDoorJQa
namespace Go.Proofs.YtcljffldbnoljaaGreatDoor
open Go.RowKit Go.Sort
variable {α : Type} [Inhabited α]

theorem siftDown_end (lt : α → α → Bool) (hi first root : Nat) (d : Array α) (h : hi ≤ 2 * root + 1) : siftDown lt hi first root d = d := by
  unfold siftDown
  rw [dif_pos h]
theorem siftDown_step (lt : α → α → Bool) (hi first root ch : Nat) (d : Array α) (h : ¬ hi ≤ 2 * root + 1)
    (hc : (ch = 2 * root + 1 ∧ ¬ (2 * root + 1 + 1 < hi ∧ lt d[first + (2 * root + 1)]! d[first + (2 * root + 1) + 1]! = true)) ∨ (ch = 2 * root + 2 ∧ 2 * root + 1 + 1 < hi ∧ lt d[first + (2 * root + 1)]! d[first + (2 * root + 1) + 1]! = true)) :
    siftDown lt hi first root d = if lt d[first + root]! d[first + ch]! = true then siftDown lt hi first ch (swp d (first + root) (first + ch)) else d := by
  conv => lhs; unfold siftDown
  rw [dif_neg h]
  rcases hc with ⟨rfl, hc⟩ | ⟨rfl, h1, h2⟩
  · rw [if_neg (by simpa using hc)]
    by_cases hl : lt d[first + root]! d[first + (2 * root + 1)]! = true
    · rw [if_neg (by simp [hl]), if_pos hl]
    · rw [if_pos (by simpa using hl), if_neg hl]
  · rw [if_pos (by simp [h1, h2])]
    by_cases hl : lt d[first + root]! d[first + (2 * root + 2)]! = true
    · rw [if_neg (by simp [hl]), dif_pos (show 2 * root + 2 < hi by omega), if_pos hl]
    · rw [if_pos (by simpa using hl), if_neg hl]

set_option maxRecDepth 100000 in
set_option maxHeartbeats 2000000 in
theorem siftDown_I (rv : Value) (blk n : Nat) (R : World → Array α → Prop) (hS : SwapI rv blk n R) (lt : α → α → Bool) (hL : LessI rv n lt R) (lo hi first : Nat) (hlo : lo ≤ n) (hhi : first + hi ≤ n) (hn : n ≤ 1000) (w : World) (D : Array α) (h : R w D) (hD : D.size = n) :
    Calls Tryz.prog 203 #[setV rv, .int .i64 lo, .int .i64 hi, .int .i64 first] w fun e w' => e = .returned (.tuple #[]) ∧ (R w' (siftDown lt hi first lo D) ∧ (siftDown lt hi first lo D).size = n) ∧ Kp [blk] w w' := by
  have HI := Lib.hid (And.intro h (And.intro hS hL))
  have mL := lessM rv
  have mS := swapM rv
  clear h hS hL
  go_enter Tryz.func203, Tryz.ntmps203
  go_wp2_with fail
  go_loopw [8] (fun x wr => ∃ root : Nat, root ≤ n ∧ x = .int .i64 root ∧ (∃ G, R wr G ∧ Hid (G.size = n ∧ siftDown lt hi first root G = siftDown lt hi first lo D)) ∧ Kp [blk] w wr) (fun x _ => hi - (intOf x).toNat)
  case atStart => exact ⟨lo, hlo, rfl, ⟨D, HI.out.1, Lib.hid ⟨hD, rfl⟩⟩, Kp.refl _ _⟩
  case round =>
    obtain ⟨root, hrn, rfl, ⟨G, hIn, hG⟩, hK⟩ := hrel
    obtain ⟨c, hc⟩ : ∃ c : Nat, 2 * root + 1 = c := ⟨_, rfl⟩
    have hw1 : IntKind.i64.wrap (2 * (root : Int)) = 2 * (root : Int) := by rw [IntKind.wrap_i64]; omega
    have hw2 : IntKind.i64.wrap (2 * (root : Int) + 1) = (c : Int) := by rw [IntKind.wrap_i64]; omega
    have hcb : root < c ∧ c ≤ 2 * n + 1 := by omega
    have HC := Lib.hid hc
    clear hc
    by_cases hge : hi ≤ c
    · have hdd : decide ((hi : Int) ≤ (c : Int)) = true := by rw [decide_eq_true_eq]; omega
      have HX := Lib.hid (And.intro hIn hK)
      clear hIn hK
      go_wp2_with fail
      go_end0
      have e := siftDown_end lt hi first root G (by rw [HC.out]; exact hge)
      rw [← hG.out.2, e]
      exact ⟨rfl, ⟨HX.out.1, hG.out.1⟩, HX.out.2⟩
    · have hdd : decide ((hi : Int) ≤ (c : Int)) = false := by rw [decide_eq_false_iff_not]; omega
      obtain ⟨c1, hc1⟩ : ∃ c1 : Nat, c + 1 = c1 := ⟨_, rfl⟩
      obtain ⟨fr, hfr⟩ : ∃ fr : Nat, first + root = fr := ⟨_, rfl⟩
      obtain ⟨fc, hfc⟩ : ∃ fc : Nat, first + c = fc := ⟨_, rfl⟩
      obtain ⟨fc1, hfc1⟩ : ∃ fc1 : Nat, fc + 1 = fc1 := ⟨_, rfl⟩
      have hw3 : IntKind.i64.wrap ((c : Int) + 1) = (c1 : Int) := by rw [IntKind.wrap_i64]; omega
      have hw4 : IntKind.i64.wrap ((first : Int) + (root : Int)) = (fr : Int) := by rw [IntKind.wrap_i64]; omega
      have hw5 : IntKind.i64.wrap ((first : Int) + (c : Int)) = (fc : Int) := by rw [IntKind.wrap_i64]; omega
      have hw6 : IntKind.i64.wrap ((fc : Int) + 1) = (fc1 : Int) := by rw [IntKind.wrap_i64]; omega
      have hw7 : IntKind.i64.wrap ((first : Int) + (c1 : Int)) = (fc1 : Int) := by rw [IntKind.wrap_i64]; omega
      have HE := Lib.hid (And.intro hc1 (And.intro hfr (And.intro hfc hfc1)))
      have hbd : fr < n ∧ fc < n ∧ c1 ≤ n := by omega
      have hbd1 : c1 < hi → fc1 < n := by omega
      have hst := Lib.hid (fun (ch : Nat) hh => siftDown_step lt hi first root ch G (by rw [HC.out]; exact hge) hh)
      clear hc1 hfr hfc hfc1
      by_cases h2 : c1 < hi
      · have hd2 : decide ((c1 : Int) < (hi : Int)) = true := by rw [decide_eq_true_eq]; omega
        have HL := Lib.hid (HI.out.2.2 wr G hIn hG.out.1 fc fc1 hbd.2.1 (hbd1 h2))
        have HK := Lib.hid hK
        clear hIn hK
        go_wp2_with fail
        refine HL.out.mono ?_
        rintro e w3 ⟨rfl, hI3, b3⟩
        have HY := Lib.hid (And.intro hI3 (HK.out.old b3))
        clear hI3 b3 HK HL
        obtain ⟨b1, hb1⟩ : ∃ b1, lt G[fc]! G[fc1]! = b1 := ⟨_, rfl⟩
        rw [hb1]
        have HB1 := Lib.hid hb1
        clear hb1
        cases b1
        · skip
          have HL2 := Lib.hid (HI.out.2.2 w3 G HY.out.1 hG.out.1 fr fc hbd.1 hbd.2.1)
          go_wp2_with fail
          refine HL2.out.mono ?_
          rintro e w5 ⟨rfl, hI5, b5⟩
          have HZ := Lib.hid (And.intro hI5 (HY.out.2.old b5))
          clear hI5 b5 HL2
          obtain ⟨b2, hb2⟩ : ∃ b2, lt G[fr]! G[fc]! = b2 := ⟨_, rfl⟩
          rw [hb2]
          have HB2 := Lib.hid hb2
          clear hb2
          have hst2 := hst.out (c) (Or.inl ⟨HC.out.symm, fun hh => by
            have q := hh.2
            rw [HC.out, HE.out.2.2.1, HE.out.2.2.2, HB1.out] at q
            exact absurd q (by decide)⟩)
          rw [show first + root = fr from HE.out.2.1, show first + c = fc by have := HE.out; omega, HB2.out] at hst2
          replace hst2 := Lib.hid hst2
          cases b2
          · go_wp2_with fail
            refine bodyPost_ret (results_none rfl _ _ _) rfl ?_
            have e := hst2.out
            simp only [reduceIte, Bool.false_eq_true] at e
            rw [← hG.out.2, e]
            exact ⟨rfl, ⟨HZ.out.1, hG.out.1⟩, HZ.out.2⟩
          · have HS := Lib.hid (HI.out.2.1 w5 G HZ.out.1 hG.out.1 fr fc hbd.1 hbd.2.1)
            go_wp2_with fail
            refine HS.out.mono ?_
            rintro e w6 ⟨rfl, hI6, k6⟩
            have HW := Lib.hid (And.intro hI6 (HZ.out.2.trans k6))
            clear hI6 k6 HS
            go_wp2_with fail
            go_roundw
            case rel =>
              have e := hst2.out
              simp only [reduceIte] at e
              exact ⟨c, by have := HE.out; omega, rfl, ⟨_, HW.out.1, Lib.hid ⟨(swp_size _ _ _).trans hG.out.1, by rw [← hG.out.2, e]⟩⟩, HW.out.2⟩
            case measure => have := HE.out; simp [intOf]; omega
        · skip
          have HL2 := Lib.hid (HI.out.2.2 w3 G HY.out.1 hG.out.1 fr fc1 hbd.1 (hbd1 h2))
          go_wp2_with fail
          refine HL2.out.mono ?_
          rintro e w5 ⟨rfl, hI5, b5⟩
          have HZ := Lib.hid (And.intro hI5 (HY.out.2.old b5))
          clear hI5 b5 HL2
          obtain ⟨b2, hb2⟩ : ∃ b2, lt G[fr]! G[fc1]! = b2 := ⟨_, rfl⟩
          rw [hb2]
          have HB2 := Lib.hid hb2
          clear hb2
          have hst2 := hst.out (c1) (Or.inr ⟨by have := HE.out; have := HC.out; omega, by have := HE.out; have := HC.out; omega, by rw [HC.out, HE.out.2.2.1, HE.out.2.2.2]; exact HB1.out⟩)
          rw [show first + root = fr from HE.out.2.1, show first + c1 = fc1 by have := HE.out; omega, HB2.out] at hst2
          replace hst2 := Lib.hid hst2
          cases b2
          · go_wp2_with fail
            refine bodyPost_ret (results_none rfl _ _ _) rfl ?_
            have e := hst2.out
            simp only [reduceIte, Bool.false_eq_true] at e
            rw [← hG.out.2, e]
            exact ⟨rfl, ⟨HZ.out.1, hG.out.1⟩, HZ.out.2⟩
          · have HS := Lib.hid (HI.out.2.1 w5 G HZ.out.1 hG.out.1 fr fc1 hbd.1 (hbd1 h2))
            go_wp2_with fail
            refine HS.out.mono ?_
            rintro e w6 ⟨rfl, hI6, k6⟩
            have HW := Lib.hid (And.intro hI6 (HZ.out.2.trans k6))
            clear hI6 k6 HS
            go_wp2_with fail
            go_roundw
            case rel =>
              have e := hst2.out
              simp only [reduceIte] at e
              exact ⟨c1, by have := HE.out; omega, rfl, ⟨_, HW.out.1, Lib.hid ⟨(swp_size _ _ _).trans hG.out.1, by rw [← hG.out.2, e]⟩⟩, HW.out.2⟩
            case measure => have := HE.out; simp [intOf]; omega
      · have hd2 : decide ((c1 : Int) < (hi : Int)) = false := by rw [decide_eq_false_iff_not]; omega
        have HY := Lib.hid (And.intro hIn hK)
        clear hIn hK
        have HL2 := Lib.hid (HI.out.2.2 wr G HY.out.1 hG.out.1 fr fc hbd.1 hbd.2.1)
        go_wp2_with fail
        refine HL2.out.mono ?_
        rintro e w5 ⟨rfl, hI5, b5⟩
        have HZ := Lib.hid (And.intro hI5 (HY.out.2.old b5))
        clear hI5 b5 HL2
        obtain ⟨b2, hb2⟩ : ∃ b2, lt G[fr]! G[fc]! = b2 := ⟨_, rfl⟩
        rw [hb2]
        have HB2 := Lib.hid hb2
        clear hb2
        have hst2 := hst.out (c) (Or.inl ⟨HC.out.symm, fun hh => by have := HE.out; have := HC.out; omega⟩)
        rw [show first + root = fr from HE.out.2.1, show first + c = fc by have := HE.out; omega, HB2.out] at hst2
        replace hst2 := Lib.hid hst2
        cases b2
        · go_wp2_with fail
          refine bodyPost_ret (results_none rfl _ _ _) rfl ?_
          have e := hst2.out
          simp only [reduceIte, Bool.false_eq_true] at e
          rw [← hG.out.2, e]
          exact ⟨rfl, ⟨HZ.out.1, hG.out.1⟩, HZ.out.2⟩
        · have HS := Lib.hid (HI.out.2.1 w5 G HZ.out.1 hG.out.1 fr fc hbd.1 hbd.2.1)
          go_wp2_with fail
          refine HS.out.mono ?_
          rintro e w6 ⟨rfl, hI6, k6⟩
          have HW := Lib.hid (And.intro hI6 (HZ.out.2.trans k6))
          clear hI6 k6 HS
          go_wp2_with fail
          go_roundw
          case rel =>
            have e := hst2.out
            simp only [reduceIte] at e
            exact ⟨c, by have := HE.out; omega, rfl, ⟨_, HW.out.1, Lib.hid ⟨(swp_size _ _ _).trans hG.out.1, by rw [← hG.out.2, e]⟩⟩, HW.out.2⟩
          case measure => have := HE.out; simp [intOf]; omega

theorem heapBuild_succ (lt : α → α → Bool) (hi first k : Nat) (d : Array α) : heapBuild lt hi first (k + 1) d = heapBuild lt hi first k (siftDown lt hi first k d) := rfl
theorem heapPop_succ (lt : α → α → Bool) (first k : Nat) (d : Array α) : heapPop lt first (k + 1) d = heapPop lt first k (siftDown lt k first 0 (swp d first (first + k))) := rfl

set_option maxRecDepth 100000 in
set_option maxHeartbeats 2000000 in
theorem heapSort_I (rv : Value) (blk n : Nat) (R : World → Array α → Prop) (hS : SwapI rv blk n R) (lt : α → α → Bool) (hL : LessI rv n lt R) (a b : Nat) (hab : a < b) (hb : b ≤ n) (hn : n ≤ 1000) (w : World) (D : Array α) (h : R w D) (hD : D.size = n) :
    Calls Tryz.prog 186 #[setV rv, .int .i64 a, .int .i64 b] w fun e w' => e = .returned (.tuple #[]) ∧ R w' (heapSort lt D a b) ∧ Kp [blk] w w' := by
  have HI := Lib.hid (And.intro h (And.intro hS hL))
  have mS := swapM rv
  clear h hS hL
  obtain ⟨hi, hhi⟩ : ∃ hi : Nat, b - a = hi := ⟨_, rfl⟩
  obtain ⟨q, hq⟩ : ∃ q : Nat, (hi - 1) / 2 = q := ⟨_, rfl⟩
  have hw1 : IntKind.i64.wrap ((b : Int) - (a : Int)) = (hi : Int) := by rw [IntKind.wrap_i64]; omega
  have hw2 : IntKind.i64.wrap ((hi : Int) - 1) = (hi : Int) - 1 := by rw [IntKind.wrap_i64]; omega
  have hw3 : IntKind.i64.wrap (Int.tdiv ((hi : Int) - 1) 2) = (q : Int) := by
    rw [Int.tdiv_eq_ediv_of_nonneg (by omega), IntKind.wrap_i64]; omega
  have hb1 : 0 < hi ∧ a + hi ≤ n ∧ q < hi := by omega
  have HE := Lib.hid (And.intro hhi hq)
  clear hhi hq
  go_enter Tryz.func186, Tryz.ntmps186
  go_wp2_with fail
  clear hw2 hw3
  go_loopw [9] (fun x wr => ∃ k : Nat, k ≤ q + 1 ∧ x = .int .i64 ((k : Int) - 1) ∧ (∃ G, R wr G ∧ Hid (G.size = n ∧ heapBuild lt hi a k G = heapBuild lt hi a (q + 1) D)) ∧ Kp [blk] w wr) (fun x _ => (intOf x + 1).toNat)
  case atStart => exact ⟨q + 1, Nat.le_refl _, by congr 1; omega, ⟨D, HI.out.1, Lib.hid ⟨hD, rfl⟩⟩, Kp.refl _ _⟩
  case round =>
    obtain ⟨k, hk, rfl, ⟨G, hIn, hG⟩, hK⟩ := hrel
    by_cases hk0 : 0 < k
    · obtain ⟨i, rfl⟩ : ∃ i, k = i + 1 := ⟨k - 1, by omega⟩
      rw [show ((i + 1 : Nat) : Int) - 1 = (i : Int) by omega]
      have hdd : decide ((0 : Int) ≤ (i : Int)) = true := by rw [decide_eq_true_eq]; omega
      have hwi : IntKind.i64.wrap ((i : Int) - 1) = (i : Int) - 1 := by rw [IntKind.wrap_i64]; omega
      have HC := Lib.hid (siftDown_I rv blk n R HI.out.2.1 lt HI.out.2.2 i hi a (by omega) hb1.2.1 hn wr G hIn hG.out.1)
      have HK := Lib.hid hK
      clear hIn hK
      go_wp2_with fail
      refine HC.out.mono ?_
      rintro e w3 ⟨rfl, h3, k3⟩
      have HY := Lib.hid (And.intro h3 (HK.out.trans k3))
      clear h3 k3 HC HK
      go_wp2_with fail
      go_roundw
      case rel => exact ⟨i, by omega, rfl, ⟨_, HY.out.1.1, Lib.hid ⟨HY.out.1.2, by rw [← hG.out.2, heapBuild_succ]⟩⟩, HY.out.2⟩
      case measure => simp [intOf]
    · obtain rfl : k = 0 := by omega
      obtain ⟨z, hz⟩ : ∃ z : Int, ((0 : Nat) : Int) - 1 = z := ⟨_, rfl⟩
      rw [hz]
      have hdd : decide ((0 : Int) ≤ z) = false := by rw [← hz]; decide
      clear hz
      have hww : IntKind.i64.wrap ((hi : Int) - 1) = (hi : Int) - 1 := by rw [IntKind.wrap_i64]; omega
      have HX := Lib.hid (And.intro hIn hK)
      have HG := Lib.hid hG.out
      clear hIn hK hG
      go_wp2_with fail
      clear hdd hww
      go_loopw [10] (fun x wr => ∃ k : Nat, k ≤ hi ∧ x = .int .i64 ((k : Int) - 1) ∧ (∃ F, R wr F ∧ Hid (F.size = n ∧ heapPop lt a k F = heapPop lt a hi G)) ∧ Kp [blk] w wr) (fun x _ => (intOf x + 1).toNat)
      case atStart => exact ⟨hi, Nat.le_refl _, rfl, ⟨G, HX.out.1, Lib.hid ⟨HG.out.1, rfl⟩⟩, HX.out.2⟩
      case round =>
        obtain ⟨k, hk, rfl, ⟨F, hIn, hF⟩, hK⟩ := hrel
        by_cases hk0 : 0 < k
        · obtain ⟨i, rfl⟩ : ∃ i, k = i + 1 := ⟨k - 1, by omega⟩
          rw [show ((i + 1 : Nat) : Int) - 1 = (i : Int) by omega]
          obtain ⟨ai, hai⟩ : ∃ ai : Nat, a + i = ai := ⟨_, rfl⟩
          have hdd : decide ((0 : Int) ≤ (i : Int)) = true := by rw [decide_eq_true_eq]; omega
          have hwi : IntKind.i64.wrap ((i : Int) - 1) = (i : Int) - 1 := by rw [IntKind.wrap_i64]; omega
          have hwa : IntKind.i64.wrap ((a : Int) + (i : Int)) = (ai : Int) := by rw [IntKind.wrap_i64]; omega
          have hb2 : a < n ∧ ai < n ∧ a + i ≤ n := by omega
          have HA := Lib.hid hai
          have HS := Lib.hid (HI.out.2.1 wr F hIn hF.out.1 a ai hb2.1 hb2.2.1)
          have HK := Lib.hid hK
          clear hIn hK hai
          go_wp2_with fail
          refine HS.out.mono ?_
          rintro e w3 ⟨rfl, h3, k3⟩
          have HC := Lib.hid (siftDown_I rv blk n R HI.out.2.1 lt HI.out.2.2 0 i a (by omega) hb2.2.2 hn w3 (swp F a ai) h3 ((swp_size _ _ _).trans hF.out.1))
          have HY := Lib.hid (HK.out.trans k3)
          clear h3 k3 HS HK
          go_wp2_with fail
          refine HC.out.mono ?_
          rintro e w4 ⟨rfl, h4, k4⟩
          have HZ := Lib.hid (And.intro h4 (HY.out.trans k4))
          clear h4 k4 HC HY
          go_wp2_with fail
          go_roundw
          case rel =>
            exact ⟨i, by omega, rfl, ⟨_, HZ.out.1.1, Lib.hid ⟨HZ.out.1.2, by rw [← hF.out.2, heapPop_succ, HA.out]⟩⟩, HZ.out.2⟩
          case measure => simp [intOf]
        · obtain rfl : k = 0 := by omega
          have hdd : decide ((0 : Int) ≤ ((0 : Nat) : Int) - 1) = false := by decide
          have HY := Lib.hid (And.intro hIn hK)
          clear hIn hK
          go_wp2_with fail
          go_end0
          have e : heapSort lt D a b = F := by
            show heapPop lt a (b - a) (heapBuild lt (b - a) a ((b - a - 1) / 2 + 1) D) = F
            rw [HE.out.1, HE.out.2, ← HG.out.2, show heapBuild lt hi a 0 G = G from rfl, ← hF.out.2]
            rfl
          rw [e]
          exact ⟨rfl, HY.out.1, HY.out.2⟩
end Go.Proofs.YtcljffldbnoljaaGreatDoor

namespace Go.Proofs.YtcljffldbnoljaaGreatDoor
open Go.Sort
variable {α : Type} [Inhabited α]

/-- Left of i all are less than row a, right of j none is. -/
def PI (lt : α → α → Bool) (a b : Nat) (D : Array α) (i j : Nat) (G : Array α) : Prop :=
  PermIn a b D G ∧ (∀ x : Nat, a < x → x < i → lt G[x]! G[a]! = true) ∧ ∀ x : Nat, j < x → x < b → lt G[x]! G[a]! = false
/-- What partition leaves. -/
def PartP (lt : α → α → Bool) (a b : Nat) (D : Array α) (m : Nat) (G : Array α) : Prop :=
  PermIn a b D G ∧ a ≤ m ∧ m < b ∧ (∀ x : Nat, a ≤ x → x < m → lt G[x]! G[m]! = true) ∧ ∀ x : Nat, m < x → x < b → lt G[x]! G[m]! = false

theorem pi_start {lt : α → α → Bool} {a b p : Nat} {D : Array α} (h1 : a ≤ p) (h2 : p < b) (hb : b ≤ D.size) : PI lt a b D (a + 1) (b - 1) (swp D a p) :=
  ⟨swp_permIn _ _ _ _ _ (Nat.le_refl _) (by omega) h1 h2 hb, fun x h3 h4 => by omega, fun x h3 h4 => by omega⟩
theorem pi_up {lt : α → α → Bool} {a b i j : Nat} {D G : Array α} (h : PI lt a b D i j G) (hl : lt G[i]! G[a]! = true) : PI lt a b D (i + 1) j G :=
  ⟨h.1, fun x h1 h2 => by
    rcases Nat.lt_or_ge x i with h3 | h3
    · exact h.2.1 x h1 h3
    · rw [show x = i by omega]; exact hl, h.2.2⟩
theorem pi_down {lt : α → α → Bool} {a b i j : Nat} {D G : Array α} (h : PI lt a b D i j G) (hl : lt G[j]! G[a]! = false) : PI lt a b D i (j - 1) G :=
  ⟨h.1, h.2.1, fun x h1 h2 => by
    rcases Nat.lt_or_ge j x with h3 | h3
    · exact h.2.2 x h3 h2
    · rw [show x = j by omega]; exact hl⟩
theorem pi_swap {lt : α → α → Bool} {a b i j : Nat} {D G : Array α} (h : PI lt a b D i j G) (hai : a < i) (hij : i < j) (hjb : j < b) (hb : b ≤ D.size) (h1 : lt G[i]! G[a]! = false) (h2 : lt G[j]! G[a]! = true) : PI lt a b D (i + 1) (j - 1) (swp G i j) := by
  have hs := h.1.1
  have ga : (swp G i j)[a]! = G[a]! := by rw [swp_get _ (by omega) (by omega), if_neg (by omega), if_neg (by omega)]
  refine ⟨permIn_trans _ _ _ _ _ h.1 (swp_permIn _ _ _ _ _ (by omega) (by omega) (by omega) hjb (by omega)), fun x h3 h4 => ?_, fun x h3 h4 => ?_⟩
  · rw [ga, swp_get _ (by omega) (by omega), if_neg (by omega)]
    by_cases hx : x = i
    · rw [if_pos hx]; exact h2
    · rw [if_neg hx]; exact h.2.1 x h3 (by omega)
  · rw [ga, swp_get _ (by omega) (by omega)]
    by_cases hx : x = j
    · rw [if_pos hx]; exact h1
    · rw [if_neg hx, if_neg (by omega)]; exact h.2.2 x (by omega) h4
theorem pi_end {lt : α → α → Bool} {a b i j : Nat} {D G : Array α} (h : PI lt a b D i j G) (haj : a ≤ j) (hjb : j < b) (hij : i = j + 1) (hb : b ≤ D.size) : PartP lt a b D j (swp G j a) := by
  have hs := h.1.1
  have gj : (swp G j a)[j]! = G[a]! := by
    rw [swp_get _ (by omega) (by omega)]
    by_cases hja : j = a
    · rw [if_pos hja, hja]
    · rw [if_neg hja, if_pos rfl]
  refine ⟨permIn_trans _ _ _ _ _ h.1 (swp_permIn _ _ _ _ _ haj hjb (by omega) (by omega) (by omega)), haj, hjb, fun x h3 h4 => ?_, fun x h3 h4 => ?_⟩
  · rw [gj, swp_get _ (by omega) (by omega)]
    by_cases hx : x = a
    · rw [if_pos hx]; exact h.2.1 j (by omega) (by omega)
    · rw [if_neg hx, if_neg (by omega)]; exact h.2.1 x (by omega) (by omega)
  · rw [gj, swp_get _ (by omega) (by omega), if_neg (by omega), if_neg (by omega)]; exact h.2.2 x h3 h4

/-- The same, of the rows that are not greater. -/
def QI (lt : α → α → Bool) (a b : Nat) (D : Array α) (i j : Nat) (G : Array α) : Prop :=
  PermIn a b D G ∧ (∀ x : Nat, a < x → x < i → lt G[a]! G[x]! = false) ∧ (∀ x : Nat, j < x → x < b → lt G[a]! G[x]! = true) ∧ G[a]! = D[a]!
/-- What partitionEqual leaves. -/
def PartQ (lt : α → α → Bool) (a b : Nat) (D : Array α) (m : Nat) (G : Array α) : Prop :=
  PermIn a b D G ∧ a < m ∧ m ≤ b ∧ (∀ x : Nat, a ≤ x → x < m → lt G[a]! G[x]! = false) ∧ (∀ x : Nat, m ≤ x → x < b → lt G[a]! G[x]! = true) ∧ G[a]! = D[a]!
theorem qi_start {lt : α → α → Bool} {a b p : Nat} {D : Array α} : QI lt a b (swp D a p) (a + 1) (b - 1) (swp D a p) :=
  ⟨permIn_refl _ _ _, fun x h3 h4 => by omega, fun x h3 h4 => by omega, rfl⟩
theorem qi_up {lt : α → α → Bool} {a b i j : Nat} {D G : Array α} (h : QI lt a b D i j G) (hl : lt G[a]! G[i]! = false) : QI lt a b D (i + 1) j G :=
  ⟨h.1, fun x h1 h2 => by
    rcases Nat.lt_or_ge x i with h3 | h3
    · exact h.2.1 x h1 h3
    · rw [show x = i by omega]; exact hl, h.2.2⟩
theorem qi_down {lt : α → α → Bool} {a b i j : Nat} {D G : Array α} (h : QI lt a b D i j G) (hl : lt G[a]! G[j]! = true) : QI lt a b D i (j - 1) G :=
  ⟨h.1, h.2.1, fun x h1 h2 => by
    rcases Nat.lt_or_ge j x with h3 | h3
    · exact h.2.2.1 x h3 h2
    · rw [show x = j by omega]; exact hl, h.2.2.2⟩
theorem qi_swap {lt : α → α → Bool} {a b i j : Nat} {D G : Array α} (h : QI lt a b D i j G) (hai : a < i) (hij : i < j) (hjb : j < b) (hb : b ≤ D.size) (h1 : lt G[a]! G[i]! = true) (h2 : lt G[a]! G[j]! = false) : QI lt a b D (i + 1) (j - 1) (swp G i j) := by
  have hs := h.1.1
  have ga : (swp G i j)[a]! = G[a]! := by rw [swp_get _ (by omega) (by omega), if_neg (by omega), if_neg (by omega)]
  refine ⟨permIn_trans _ _ _ _ _ h.1 (swp_permIn _ _ _ _ _ (by omega) (by omega) (by omega) hjb (by omega)), fun x h3 h4 => ?_, fun x h3 h4 => ?_, ga.trans h.2.2.2⟩
  · rw [ga, swp_get _ (by omega) (by omega), if_neg (by omega)]
    by_cases hx : x = i
    · rw [if_pos hx]; exact h2
    · rw [if_neg hx]; exact h.2.1 x h3 (by omega)
  · rw [ga, swp_get _ (by omega) (by omega)]
    by_cases hx : x = j
    · rw [if_pos hx]; exact h1
    · rw [if_neg hx, if_neg (by omega)]; exact h.2.2.1 x (by omega) h4
theorem qi_end {lt : α → α → Bool} (hO : SWO lt) {a b i j : Nat} {D G : Array α} (h : QI lt a b D i j G) (hai : a < i) (hib : i ≤ b) (hij : i = j + 1) : PartQ lt a b D i G :=
  ⟨h.1, hai, hib, fun x h3 h4 => by
    rcases Nat.lt_or_ge a x with h5 | h5
    · exact h.2.1 x h5 h4
    · rw [show x = a by omega]; exact hO.irrefl _, fun x h3 h4 => h.2.2.1 x (by omega) h4, h.2.2.2⟩
end Go.Proofs.YtcljffldbnoljaaGreatDoor
