/-
  What the rounds of pdqsort keep. Conditions: as each law says.
  sort.pdqsort over index.recordSet, whatever order it sorts by: the row is sorted. Conditions: as the contract says.
-/
import Derived.Test.YtcljffldbnoljaaGreatDoorJVb
import Derived.Sort.LotB
import Derived.Test.YtcljffldbnoljaaGreatDoorJVc
import Derived.Test.YtcljffldbnoljaaGreatDoorJVe
import Derived.Test.YtcljffldbnoljaaGreatDoorVg
import Derived.Deep.Cut
import Derived.Deep.CutRange
import Derived.Deep.CutBlock
namespace Go.Proofs.YtcljffldbnoljaaGreatDoor
open Go.Sort
variable {α : Type} [Inhabited α]

/-- [x, y) is what is left to sort: sorted, it makes all of [a, b) sorted. -/
def PQ (lt : α → α → Bool) (a b : Nat) (D : Array α) (x y : Nat) (G : Array α) : Prop :=
  Below lt x y G ∧ PermIn a b D G ∧ ∀ E : Array α, PermIn x y G E → SortedIn lt x y E → SortedIn lt a b E
theorem pq_start {lt : α → α → Bool} {a b : Nat} {D : Array α} (h : Below lt a b D) : PQ lt a b D a b D := ⟨h, permIn_refl _ _ _, fun _ _ hs => hs⟩
theorem pq_end {lt : α → α → Bool} {a b x y : Nat} {D G E : Array α} (h1 : a ≤ x) (h2 : y ≤ b) (hb : b ≤ D.size) (h : PQ lt a b D x y G) (hp : PermIn x y G E) (hs : SortedIn lt x y E) : PermIn a b D E ∧ SortedIn lt a b E :=
  ⟨permIn_trans _ _ _ _ _ h.2.1 (permIn_mono _ _ _ _ _ _ h1 h2 (by rw [h.2.1.1]; exact hb) hp), h.2.2 E hp hs⟩
/-- The same row with [x, y) turned about. -/
theorem pq_perm {lt : α → α → Bool} {a b x y : Nat} {D G E : Array α} (h1 : a ≤ x) (h2 : y ≤ b) (hb : b ≤ D.size) (h : PQ lt a b D x y G) (hp : PermIn x y G E) : PQ lt a b D x y E := by
  have hs := h.2.1.1
  exact ⟨Below.perm h.1 (by omega) hp, permIn_trans _ _ _ _ _ h.2.1 (permIn_mono _ _ _ _ _ _ h1 h2 (by omega) hp), fun F hF hs => h.2.2 F (permIn_trans _ _ _ _ _ hp hF) hs⟩
/-- Behind partitionEqual: the rows left of m are as the least. -/
theorem pq_equal {lt : α → α → Bool} (hO : SWO lt) {a b x y p m : Nat} {D G E : Array α} (h1 : a ≤ x) (h2 : y ≤ b) (hb : b ≤ D.size) (hxp : x ≤ p) (hpy : p < y) (h : PQ lt a b D x y G) (hx0 : 0 < x) (hl : lt G[x - 1]! G[p]! = false)
    (hq : PartQ lt x y (swp G x p) m E) : PQ lt a b D m y E := by
  have hs := h.2.1.1
  have hPs : PermIn x y G (swp G x p) := swp_permIn _ _ _ _ _ (Nat.le_refl _) (by omega) hxp hpy (by omega)
  have hPE : PermIn x y G E := permIn_trans _ _ _ _ _ hPs hq.1
  have hBE : Below lt x y E := Below.perm h.1 (by omega) hPE
  have hEs := hPE.1
  have hpart := pq_perm h1 h2 hb h hPE
  have hx1 : E[x - 1]! = G[x - 1]! := hPE.2.1 _ (Or.inl (by omega))
  have hEx : E[x]! = G[p]! := by
    rw [hq.2.2.2.2.2, swp_get _ (by omega) (by omega)]
    by_cases hxp2 : x = p
    · rw [if_pos hxp2, hxp2]
    · rw [if_neg hxp2, if_pos rfl]
  have hall : ∀ i, x ≤ i → i < m → lt E[i]! E[x]! = false ∧ lt E[x]! E[i]! = false := by
    intro i hi him
    refine ⟨?_, hq.2.2.2.1 i hi him⟩
    have e1 : lt E[i]! E[x - 1]! = false := (hBE.resolve_left (by omega)) i hi (by have := hq.2.2.1; omega)
    have e2 : lt E[x - 1]! E[x]! = false := by
      rw [hEx, hx1]; exact hl
    exact hO.ntrans _ _ _ e1 e2
  refine ⟨Or.inr ?_, hpart.2.1, fun F hF hFs => ?_⟩
  · intro i hi hiy
    have e1 : lt E[x]! E[i]! = true := hq.2.2.2.2.1 i hi hiy
    have e2 := hall (m - 1) (by have := hq.2.1; omega) (by have := hq.2.1; omega)
    cases hc : lt E[i]! E[m - 1]! with
    | false => rfl
    | true =>
      have := hO.trans _ _ _ e1 hc
      rw [e2.2] at this; cases this
  · have hmy := hq.2.2.1
    have hFp : PermIn x y E F := permIn_mono _ _ _ _ _ _ (by have := hq.2.1; omega) (Nat.le_refl _) (by omega) hF
    refine hpart.2.2 F hFp ?_
    have hF1 : ∀ i, i < m → F[i]! = E[i]! := fun i hi => hF.2.1 i (Or.inl hi)
    refine sorted_glue_eq hO (p := E[x]!) hFs (fun i hi him => ?_) (fun i hi him => ?_) ?_
    · rw [hF1 i him]; exact (hall i hi him).2
    · rw [hF1 i him]; exact (hall i hi him).1
    · exact permIn_all E F m y (fun z => lt E[x]! z = true) (by omega) hF (fun i hi hiy => hq.2.2.2.2.1 i hi hiy)
/-- Behind partition: what the two parts have ahead of them. -/
theorem pq_belows {lt : α → α → Bool} {a b x y m : Nat} {D G E : Array α} (_h1 : a ≤ x) (h2 : y ≤ b) (hb : b ≤ D.size) (h : PQ lt a b D x y G) (hq : PartP lt x y G m E) : Below lt x m E ∧ Below lt (m + 1) y E := by
  have hs := h.2.1.1
  have hBE : Below lt x y E := Below.perm h.1 (by omega) hq.1
  exact ⟨hBE.mono (by have := hq.2.2.1; omega), Or.inr fun i hi hiy => by rw [Nat.add_sub_cancel]; exact hq.2.2.2.2 i (by omega) hiy⟩
/-- The left part is sorted. -/
theorem pq_left {lt : α → α → Bool} (hO : SWO lt) {a b x y m : Nat} {D G E L : Array α} (h1 : a ≤ x) (h2 : y ≤ b) (hb : b ≤ D.size) (h : PQ lt a b D x y G) (hq : PartP lt x y G m E) (hL : PermIn x m E L) (hs : SortedIn lt x m L) : PQ lt a b D (m + 1) y L := by
  have hGs := h.2.1.1
  have hEs := hq.1.1
  have hLs := hL.1
  have hxm := hq.2.1
  have hmy := hq.2.2.1
  have hLm : ∀ i, m ≤ i → L[i]! = E[i]! := fun i hi => hL.2.1 i (Or.inr hi)
  have hpart := pq_perm h1 h2 hb h hq.1
  have hEL : PermIn x y E L := permIn_mono _ _ _ _ _ _ (Nat.le_refl _) (by omega) (by omega) hL
  refine ⟨Or.inr fun i hi hiy => ?_, (pq_perm h1 h2 hb hpart hEL).2.1, fun F hF hFs => ?_⟩
  · rw [Nat.add_sub_cancel, hLm i (by omega), hLm m (Nat.le_refl _)]; exact hq.2.2.2.2 i (by omega) hiy
  · have hFl : ∀ i, i ≤ m → F[i]! = L[i]! := fun i hi => hF.2.1 i (Or.inl (by omega))
    refine hpart.2.2 F (permIn_trans _ _ _ _ _ hEL (permIn_mono _ _ _ _ _ _ (by omega) (Nat.le_refl _) (by omega) hF)) ?_
    refine sorted_glue hO (SortedIn.congr hs fun i _ hi => hFl i (by omega)) hFs (fun i hi him => ?_) (fun i hi hiy => ?_)
    · rw [hFl i (by omega), hFl m (Nat.le_refl _), hLm m (Nat.le_refl _)]
      exact permIn_all E L x m (fun z => lt z E[m]! = true) (by omega) hL (fun k hk hkm => hq.2.2.2.1 k hk hkm) i hi him
    · rw [hFl m (Nat.le_refl _), hLm m (Nat.le_refl _)]
      exact permIn_all L F (m + 1) y (fun z => lt z E[m]! = false) (by omega) hF (fun k hk hky => by rw [hLm k (by omega)]; exact hq.2.2.2.2 k (by omega) hky) i (by omega) hiy
/-- The right part is sorted. -/
theorem pq_right {lt : α → α → Bool} (hO : SWO lt) {a b x y m : Nat} {D G E L : Array α} (h1 : a ≤ x) (h2 : y ≤ b) (hb : b ≤ D.size) (h : PQ lt a b D x y G) (hq : PartP lt x y G m E) (hL : PermIn (m + 1) y E L) (hs : SortedIn lt (m + 1) y L) : PQ lt a b D x m L := by
  have hGs := h.2.1.1
  have hEs := hq.1.1
  have hLs := hL.1
  have hxm := hq.2.1
  have hmy := hq.2.2.1
  have hLm : ∀ i, i ≤ m → L[i]! = E[i]! := fun i hi => hL.2.1 i (Or.inl (by omega))
  have hpart := pq_perm h1 h2 hb h hq.1
  have hEL : PermIn x y E L := permIn_mono _ _ _ _ _ _ (by omega) (Nat.le_refl _) (by omega) hL
  refine ⟨?_, (pq_perm h1 h2 hb hpart hEL).2.1, fun F hF hFs => ?_⟩
  · rcases (pq_belows h1 h2 hb h hq).1 with h0 | h0
    · exact Or.inl h0
    · exact Or.inr fun i hi him => by rw [hLm i (by omega), hLm (x - 1) (by omega)]; exact h0 i hi him
  · have hFr : ∀ i, m ≤ i → F[i]! = L[i]! := fun i hi => hF.2.1 i (Or.inr hi)
    refine hpart.2.2 F (permIn_trans _ _ _ _ _ hEL (permIn_mono _ _ _ _ _ _ (Nat.le_refl _) (by omega) (by omega) hF)) ?_
    refine sorted_glue hO hFs (SortedIn.congr hs fun i hi _ => hFr i (by omega)) (fun i hi him => ?_) (fun i hi hiy => ?_)
    · rw [hFr m (Nat.le_refl _), hLm m (Nat.le_refl _)]
      exact permIn_all L F x m (fun z => lt z E[m]! = true) (by omega) hF (fun k hk hkm => by rw [hLm k (by omega)]; exact hq.2.2.2.1 k hk hkm) i hi him
    · rw [hFr i (by omega), hFr m (Nat.le_refl _), hLm m (Nat.le_refl _)]
      exact permIn_all E L (m + 1) y (fun z => lt z E[m]! = false) (by omega) hL (fun k hk hky => hq.2.2.2.2 k (by omega) hky) i (by omega) hiy
end Go.Proofs.YtcljffldbnoljaaGreatDoor

namespace Go.Proofs.YtcljffldbnoljaaGreatDoor
open Go.RowKit Go.Sort
variable {α : Type} [Inhabited α]

def PdPost (R : World → Array α → Prop) (lt : α → α → Bool) (D : Array α) (a b blk : Nat) (w : World) (e : Ending) (w' : World) : Prop :=
  e = .returned (.tuple #[]) ∧ (∃ D', R w' D' ∧ PermIn a b D D' ∧ SortedIn lt a b D') ∧ Kp [blk] w w'

set_option maxRecDepth 100000 in
set_option maxHeartbeats 16000000 in
theorem pdqsort_I (rv : Value) (B blk n : Nat) (R : World → Array α → Prop) (hI : InvB B R) (hS : SwapI rv blk n R) (lt : α → α → Bool) (hO : SWO lt) (hL : LessI rv n lt R) (hn : n ≤ 1000) : ∀ (q a b lim : Nat), b - a ≤ q → a ≤ b → b ≤ n → lim ≤ 1000 → ∀ (w : World) (D : Array α), B ≤ w.heap.size → blk < w.heap.size → R w D → D.size = n → Sort.Below lt a b D →
    Calls Tryz.prog 180 #[setV rv, .int .i64 a, .int .i64 b, .int .i64 lim] w (PdPost R lt D a b blk w) := by
  intro q
  induction q using Nat.strongRecOn with
  | _ q ih =>
  intro a b lim hq hab hb hlim w D hBw hblk h hD hBel
  have IH := Lib.hid ih
  have HI := Lib.hid (And.intro hI (And.intro hS (And.intro hL (And.intro hBw (And.intro hblk hD)))))
  have mL := lessM rv
  have H0 := Lib.hid (And.intro h hBel)
  clear ih hI hS hL h hBel hBw hblk hD
  go_enter Tryz.func180, Tryz.ntmps180
  go_wp2_with fail
  go_loopw [1, 2, 3, 8, 9] (fun va vb vl v8 v9 wr => ∃ (x y l : Nat) (wb wp : Bool) (G : Array α), a ≤ x ∧ x ≤ y ∧ y ≤ b ∧ l ≤ lim ∧ va = .int .i64 x ∧ vb = .int .i64 y ∧ vl = .int .i64 l ∧ v8 = .bool wb ∧ v9 = .bool wp ∧ (R wr G ∧ Hid (PQ lt a b D x y G)) ∧ Kp [blk] w wr) (fun va vb _ _ _ _ => (intOf vb - intOf va).toNat)
  case atStart => exact ⟨a, b, lim, true, true, D, Nat.le_refl _, hab, Nat.le_refl _, Nat.le_refl _, rfl, rfl, rfl, rfl, rfl, ⟨H0.out.1, Lib.hid (pq_start H0.out.2)⟩, Kp.refl _ _⟩
  case round =>
    obtain ⟨x, y, l, wb, wp, G, hax, hxy, hyb, hll, rfl, rfl, rfl, rfl, rfl, ⟨hIn, hG⟩, hK⟩ := hrel
    obtain ⟨len, hlen⟩ : ∃ len : Nat, y - x = len := ⟨_, rfl⟩
    have hwl : IntKind.i64.wrap ((y : Int) - (x : Int)) = (len : Int) := by rw [IntKind.wrap_i64]; omega
    have HLn := Lib.hid hlen
    have HGs : Hid (G.size = n) := Lib.hid (hG.out.2.1.1.trans HI.out.2.2.2.2.2)
    have hwB : Hid (B ≤ wr.heap.size ∧ blk < wr.heap.size) := Lib.hid ⟨Nat.le_trans HI.out.2.2.2.1 hK.size, Nat.lt_of_lt_of_le HI.out.2.2.2.2.1 hK.size⟩
    clear hlen
    by_cases h12 : len ≤ 12
    · have d12 : decide ((len : Int) ≤ 12) = true := by rw [decide_eq_true_eq]; omega
      have d12N : decide (len ≤ 12) = true := by rw [decide_eq_true_eq]; omega
      have HC := Lib.hid (insertionSort_I rv blk n R HI.out.2.1 lt HI.out.2.2.1 x y hxy (by omega) hn wr G hIn HGs.out)
      have HK := Lib.hid hK
      clear hIn hK
      go_wp2_with fail
      refine HC.out.mono ?_
      rintro e w2 ⟨rfl, h2, k2⟩
      have H2 := Lib.hid (And.intro h2 (HK.out.trans k2))
      clear h2 k2 HC
      go_wp2_with fail
      have hs := insertionSort_holds (lt := lt) hO G x y hxy (by have := HGs.out; omega)
      refine bodyPost_ret (results_none rfl _ _ _) rfl ⟨rfl, ⟨_, H2.out.1, ?_⟩, H2.out.2⟩
      exact pq_end hax hyb (by have := HI.out.2.2.2.2.2; omega) hG.out hs.1 hs.2
    · have d12 : decide ((len : Int) ≤ 12) = false := by rw [decide_eq_false_iff_not]; omega
      have d12N : decide (len ≤ 12) = false := by rw [decide_eq_false_iff_not]; omega
      have hxy' : x < y := by have := HLn.out; omega
      by_cases hl0 : l = 0
      · subst hl0
        have HC := Lib.hid (heapSort_I rv blk n R HI.out.2.1 lt HI.out.2.2.1 x y hxy' (by omega) hn wr G hIn HGs.out)
        have HK := Lib.hid hK
        clear hIn hK
        go_wp2_with fail
        refine HC.out.mono ?_
        rintro e w2 ⟨rfl, h2, k2⟩
        have H2 := Lib.hid (And.intro h2 (HK.out.trans k2))
        clear h2 k2 HC
        go_wp2_with fail
        have hs := heapSort_holds (lt := lt) hO G x y hxy (by have := HGs.out; omega)
        refine bodyPost_ret (results_none rfl _ _ _) rfl ⟨rfl, ⟨_, H2.out.1, ?_⟩, H2.out.2⟩
        exact pq_end hax hyb (by have := HI.out.2.2.2.2.2; omega) hG.out hs.1 hs.2
      · have hl0I : ((l : Int) == 0) = false := by rw [beq_eq_false_iff_ne]; omega
        have hl0N : (l == 0) = false := by rw [beq_eq_false_iff_ne]; omega
        have hl0n : ¬ (l : Int) = 0 := by omega
        have hlw : IntKind.i64.wrap ((l : Int) - 1) = ((l - 1 : Nat) : Int) := by rw [IntKind.wrap_i64]; omega
        obtain ⟨l1, hl1⟩ : ∃ l1, l - 1 = l1 := ⟨_, rfl⟩
        rw [hl1] at hlw
        have HL1 := Lib.hid hl1
        have HW := Lib.hid (And.intro hIn hK)
        clear hIn hK hl1
        go_upto_if 35 with fail
        go_cut [3] from 19 to 128 (fun s3 wx => ∃ (l2 : Nat) (G1 : Array α), l2 ≤ lim ∧ s3 = .int .i64 l2 ∧ (R wx G1 ∧ Hid (PermIn x y G G1)) ∧ Kp [blk] w wx)
        case first =>
          cases wb
          · have HC := Lib.hid (breakPatterns_I rv B blk n R HI.out.1 HI.out.2.1 x y hxy' (by omega) hn wr hwB.out.1 hwB.out.2 G HW.out.1 HGs.out)
            go_wp2_with fail
            refine HC.out.mono ?_
            rintro e w2 ⟨rfl, ⟨G1, h2, hp2⟩, k2⟩
            have H2 := Lib.hid (And.intro h2 (And.intro hp2 (HW.out.2.trans k2)))
            clear h2 hp2 k2 HC
            go_wp2_with fail
            go_meet
            case rel => exact ⟨l1, G1, by have := HL1.out; omega, rfl, ⟨H2.out.1, Lib.hid H2.out.2.1⟩, H2.out.2.2⟩
          · go_wp2_with fail
            go_meet
            case rel => exact ⟨l, G, hll, rfl, ⟨HW.out.1, Lib.hid (permIn_refl _ _ _)⟩, HW.out.2⟩
        case rest =>
          obtain ⟨l2, G1, hl2, rfl, ⟨hIn, hG1⟩, hK⟩ := hcut
          have HG1s : Hid (G1.size = n) := Lib.hid (hG1.out.1.trans HGs.out)
          have HC := Lib.hid (choosePivot_I rv B n R HI.out.1 lt HI.out.2.2.1 x y hxy' (by omega) hn wc (Nat.le_trans HI.out.2.2.2.1 hK.size) G1 hIn HG1s.out)
          have HK := Lib.hid hK
          clear hIn hK
          go_upto_if 50 with (go_at_call 188; refine HC.out.mono ?_; rintro _ w2 ⟨⟨p, h, hp1, hp2, hh, rfl⟩, h2, k2⟩; replace h2 := Lib.hid (And.intro h2 (HK.out.trans (Kp.of_below k2 [blk]))); clear k2)
          clear HC HK
          go_cut [11, 12] from 19 to 128 (fun s11 s12 wx => ∃ (p2 : Nat) (h3 : Int) (G2 : Array α), x ≤ p2 ∧ p2 < y ∧ s11 = .int .i64 p2 ∧ s12 = .int .i64 h3 ∧ (R wx G2 ∧ Hid (PermIn x y G G2)) ∧ Kp [blk] w wx)
          case first =>
            by_cases hd2 : h = 2
            · subst hd2
              have HC := Lib.hid (reverseRange_I rv blk n R HI.out.2.1 x y hxy' (by omega) hn w2 G1 h2.out.1 HG1s.out)
              obtain ⟨p2, hp2e⟩ : ∃ p2 : Nat, (y - 1) - (p - x) = p2 := ⟨_, rfl⟩
              obtain ⟨y1, hy1⟩ : ∃ y1 : Nat, y - 1 = y1 := ⟨_, rfl⟩
              obtain ⟨px, hpx⟩ : ∃ px : Nat, p - x = px := ⟨_, rfl⟩
              have hw1 : IntKind.i64.wrap ((y : Int) - 1) = (y1 : Int) := by rw [IntKind.wrap_i64]; omega
              have hw2 : IntKind.i64.wrap ((p : Int) - (x : Int)) = (px : Int) := by rw [IntKind.wrap_i64]; omega
              have hw3 : IntKind.i64.wrap ((y1 : Int) - (px : Int)) = (p2 : Int) := by rw [IntKind.wrap_i64]; omega
              have hpb : x ≤ p2 ∧ p2 < y := by omega
              clear hp2e hy1 hpx
              go_wp2_with fail
              refine HC.out.mono ?_
              rintro e w3 ⟨rfl, ⟨G2, h3, hp3⟩, k3⟩
              have H3 := Lib.hid (And.intro h3 (And.intro hp3 (h2.out.2.trans k3)))
              clear h3 hp3 k3 HC
              go_wp2_with fail
              go_meet
              case rel => exact ⟨p2, 1, G2, hpb.1, hpb.2, rfl, rfl, ⟨H3.out.1, Lib.hid (permIn_trans _ _ _ _ _ hG1.out H3.out.2.1)⟩, H3.out.2.2⟩
            · have hd2b : (h == 2) = false := by rw [beq_eq_false_iff_ne]; exact hd2
              go_wp2_with fail
              go_meet
              case rel => exact ⟨p, h, G1, hp1, hp2, rfl, rfl, ⟨h2.out.1, hG1⟩, h2.out.2⟩
          case rest =>
            clear h2 hp1 hp2 hh
            obtain ⟨p2, h3, G2, hxp, hpy, rfl, rfl, ⟨hIn, hG2⟩, hK⟩ := hcut
            have HW2 := Lib.hid (And.intro hIn hK)
            clear hIn hK
            have HG2s : Hid (G2.size = n) := Lib.hid (hG2.out.1.trans HGs.out)
            go_upto_region 15 with fail
            go_cut [68] from 19 to 128 (fun s68 wx => (∃ tb : Bool, s68 = .bool tb) ∧ (R wx G2 ∧ Kp [blk] w wx))
            case first =>
              cases wb
              · go_wp2_with fail
                go_meet
                case rel => exact ⟨⟨_, rfl⟩, HW2.out⟩
              · cases wp
                · go_wp2_with fail
                  go_meet
                  case rel => exact ⟨⟨_, rfl⟩, HW2.out⟩
                · go_wp2_with fail
                  go_meet
                  case rel => exact ⟨⟨_, rfl⟩, HW2.out⟩
            case rest =>
              obtain ⟨⟨tb, rfl⟩, hW3⟩ := hcut
              have HW3 := Lib.hid hW3
              clear hW3 HW2
              go_upto_if 68 with fail
              go_cut [] from 19 to 128 (fun wx => ∃ G3 : Array α, (R wx G3 ∧ Hid (PermIn x y G G3)) ∧ Kp [blk] w wx)
              case first =>
                cases tb
                · go_wp2_with fail
                  go_meet
                  case rel => exact ⟨G2, ⟨HW3.out.1, hG2⟩, HW3.out.2⟩
                · have HC := Lib.hid (partialInsertionSort_I rv blk n R HI.out.2.1 lt HI.out.2.2.1 x y hxy' (by omega) hn _ G2 HW3.out.1 HG2s.out)
                  go_wp2_with fail
                  refine HC.out.mono ?_
                  rintro e w4 ⟨⟨G3, r, hpe, rfl, h4⟩, k4⟩
                  have hs := partialInsertionSort_holds (lt := lt) hO G2 x y hxy' (by have := HG2s.out; omega) (Below.perm hG.out.1 (by have := HGs.out; omega) hG2.out)
                  rw [hpe] at hs
                  have H4 := Lib.hid (And.intro h4 (And.intro (HW3.out.2.trans k4) hs))
                  clear h4 k4 HC hpe hs
                  cases r
                  · go_wp2_with fail
                    go_meet
                    case rel => exact ⟨G3, ⟨H4.out.1, Lib.hid (permIn_trans _ _ _ _ _ hG2.out H4.out.2.2.1)⟩, H4.out.2.1⟩
                  · go_wp2_with fail
                    refine bodyPost_ret (results_none rfl _ _ _) rfl ⟨rfl, ⟨G3, H4.out.1, ?_⟩, H4.out.2.1⟩
                    exact pq_end hax hyb (by have := HI.out.2.2.2.2.2; omega) hG.out (permIn_trans _ _ _ _ _ hG2.out H4.out.2.2.1) (H4.out.2.2.2 (by trivial))
              case rest =>
                obtain ⟨G3, ⟨hIn, hG3⟩, hK⟩ := hcut
                have HW4 := Lib.hid (And.intro hIn hK)
                have HG3s : Hid (G3.size = n) := Lib.hid (hG3.out.1.trans HGs.out)
                have HPQ : Hid (PQ lt a b D x y G3) := Lib.hid (pq_perm hax hyb (by have := HI.out.2.2.2.2.2; omega) hG.out hG3.out)
                clear hIn hK HW3 hG3
                go_upto_region 17 with fail
                go_cut [82] from 19 to 128 (fun s82 wx => (∃ tb : Bool, s82 = .bool tb ∧ Hid (tb = true → 0 < x ∧ lt G3[x - 1]! G3[p2]! = false)) ∧ (R wx G3 ∧ Kp [blk] w wx))
                case first =>
                  by_cases hx0 : 0 < x
                  · have dx : decide ((0 : Int) < (x : Int)) = true := by rw [decide_eq_true_eq]; omega
                    have dxN : decide (0 < x) = true := by rw [decide_eq_true_eq]; omega
                    obtain ⟨x1, hx1⟩ : ∃ x1 : Nat, x - 1 = x1 := ⟨_, rfl⟩
                    have hw1 : IntKind.i64.wrap ((x : Int) - 1) = (x1 : Int) := by rw [IntKind.wrap_i64]; omega
                    have HL := Lib.hid (HI.out.2.2.1 wc G3 HW4.out.1 HG3s.out x1 p2 (by omega) (by omega))
                    have HX1 := Lib.hid hx1
                    clear hx1
                    go_wp2_with fail
                    refine HL.out.mono ?_
                    rintro e w5 ⟨rfl, h5, b5⟩
                    have H5 := Lib.hid (And.intro h5 (HW4.out.2.old b5))
                    obtain ⟨bb, hbb⟩ : ∃ bb, lt G3[x1]! G3[p2]! = bb := ⟨_, rfl⟩
                    rw [hbb]
                    have HB := Lib.hid hbb
                    clear h5 b5 HL hbb
                    cases bb
                    · go_wp2_with fail
                      go_meet
                      case rel => exact ⟨⟨true, rfl, Lib.hid fun _ => ⟨hx0, by rw [HX1.out]; exact HB.out⟩⟩, H5.out⟩
                    · go_wp2_with fail
                      go_meet
                      case rel => exact ⟨⟨false, rfl, Lib.hid fun hc => by cases hc⟩, H5.out⟩
                  · have dx : decide ((0 : Int) < (x : Int)) = false := by rw [decide_eq_false_iff_not]; omega
                    have dxN : decide (0 < x) = false := by rw [decide_eq_false_iff_not]; omega
                    go_wp2_with fail
                    go_meet
                    case rel => exact ⟨⟨false, rfl, Lib.hid fun hc => by cases hc⟩, HW4.out⟩
                case rest =>
                  obtain ⟨⟨tb, rfl, hT⟩, hW5⟩ := hcut
                  have HW5 := Lib.hid hW5
                  clear hW5 HW4
                  cases tb
                  · have HC := Lib.hid (partition_I rv blk n R HI.out.2.1 lt HI.out.2.2.1 x y p2 hxp hpy (by omega) hn _ G3 HW5.out.1 HG3s.out)
                    go_wp2_with fail
                    refine HC.out.mono ?_
                    rintro e w6 ⟨⟨m, E, ap, rfl, h6, hp6⟩, k6⟩
                    have H6 := Lib.hid (And.intro h6 (And.intro hp6 (HW5.out.2.trans k6)))
                    have hxm : x ≤ m ∧ m < y := ⟨hp6.2.1, hp6.2.2.1⟩
                    clear h6 hp6 k6 HC
                    have HBs := Lib.hid (pq_belows hax hyb (by have := HI.out.2.2.2.2.2; omega) HPQ.out H6.out.2.1)
                    have HEs : Hid (E.size = n) := Lib.hid (H6.out.2.1.1.1.trans HG3s.out)
                    obtain ⟨ll, hll2⟩ : ∃ ll : Nat, m - x = ll := ⟨_, rfl⟩
                    obtain ⟨rl, hrl⟩ : ∃ rl : Nat, y - m = rl := ⟨_, rfl⟩
                    obtain ⟨bt, hbt⟩ : ∃ bt : Nat, len / 8 = bt := ⟨_, rfl⟩
                    obtain ⟨m1, hm1⟩ : ∃ m1 : Nat, m + 1 = m1 := ⟨_, rfl⟩
                    have hw1 : IntKind.i64.wrap ((m : Int) - (x : Int)) = (ll : Int) := by rw [IntKind.wrap_i64]; omega
                    have hw2 : IntKind.i64.wrap ((y : Int) - (m : Int)) = (rl : Int) := by rw [IntKind.wrap_i64]; omega
                    have hw3 : (len : Int) / 8 = (bt : Int) := by omega
                    have hw3' : Int.tdiv (len : Int) 8 = (bt : Int) := by rw [Int.tdiv_eq_ediv_of_nonneg (by omega)]; omega
                    have hw3w : IntKind.i64.wrap (bt : Int) = (bt : Int) := by have := HLn.out; rw [IntKind.wrap_i64]; omega
                    have hw4 : IntKind.i64.wrap ((m : Int) + 1) = (m1 : Int) := by rw [IntKind.wrap_i64]; omega
                    have HM := Lib.hid (And.intro hll2 (And.intro hrl hm1))
                    have hB6 : Hid (B ≤ w6.heap.size ∧ blk < w6.heap.size) := Lib.hid ⟨Nat.le_trans HI.out.2.2.2.1 H6.out.2.2.size, Nat.lt_of_lt_of_le HI.out.2.2.2.2.1 H6.out.2.2.size⟩
                    have hmb : x ≤ m ∧ m < m1 ∧ m1 ≤ y := by omega
                    by_cases hlr : ll < rl
                    · have dlr : decide ((ll : Int) < (rl : Int)) = true := by rw [decide_eq_true_eq]; omega
                      have dlrN : decide (ll < rl) = true := by rw [decide_eq_true_eq]; omega
                      have HC := Lib.hid (IH.out (m - x) (by have := HM.out; have := HLn.out; omega) x m l2 (Nat.le_refl _) hmb.1 (by omega) (by omega) w6 E hB6.out.1 hB6.out.2 H6.out.1 HEs.out HBs.out.1)
                      clear hll2 hrl hbt hm1
                      go_wp2_with fail
                      refine HC.out.mono ?_
                      rintro e w7 ⟨rfl, ⟨L, h7, hp7, hs7⟩, k7⟩
                      have H7 := Lib.hid (And.intro h7 (And.intro (pq_left hO hax hyb (by have := HI.out.2.2.2.2.2; omega) HPQ.out H6.out.2.1 hp7 hs7) (H6.out.2.2.trans k7)))
                      clear h7 hp7 hs7 k7 HC
                      go_wp2_with fail
                      go_roundw
                      case rel => exact ⟨m1, y, l2, _, _, L, by omega, by omega, hyb, hl2, rfl, rfl, rfl, rfl, rfl, ⟨H7.out.1, Lib.hid (by rw [← HM.out.2.2]; exact H7.out.2.1)⟩, H7.out.2.2⟩
                      case measure => simp [intOf]; omega
                    · have dlr : decide ((ll : Int) < (rl : Int)) = false := by rw [decide_eq_false_iff_not]; omega
                      have dlrN : decide (ll < rl) = false := by rw [decide_eq_false_iff_not]; omega
                      have HC := Lib.hid (IH.out (y - m1) (by have := HM.out; have := HLn.out; omega) m1 y l2 (Nat.le_refl _) hmb.2.2 (by omega) (by omega) w6 E hB6.out.1 hB6.out.2 H6.out.1 HEs.out (by rw [← HM.out.2.2]; exact HBs.out.2))
                      clear hll2 hrl hbt hm1
                      go_wp2_with fail
                      refine HC.out.mono ?_
                      rintro e w7 ⟨rfl, ⟨L, h7, hp7, hs7⟩, k7⟩
                      rw [← HM.out.2.2] at hp7 hs7
                      have H7 := Lib.hid (And.intro h7 (And.intro (pq_right hO hax hyb (by have := HI.out.2.2.2.2.2; omega) HPQ.out H6.out.2.1 hp7 hs7) (H6.out.2.2.trans k7)))
                      clear h7 hp7 hs7 k7 HC
                      go_wp2_with fail
                      go_roundw
                      case rel => exact ⟨x, m, l2, _, _, L, hax, by omega, by omega, hl2, rfl, rfl, rfl, rfl, rfl, ⟨H7.out.1, Lib.hid H7.out.2.1⟩, H7.out.2.2⟩
                      case measure => simp [intOf]; omega
                  · have HC := Lib.hid (partitionEqual_I rv blk n R HI.out.2.1 lt hO HI.out.2.2.1 x y p2 hxp hpy (by omega) hn _ G3 HW5.out.1 HG3s.out)
                    go_wp2_with fail
                    refine HC.out.mono ?_
                    rintro e w6 ⟨⟨m, E, rfl, h6, hp6⟩, k6⟩
                    have hxm : x < m ∧ m ≤ y := ⟨hp6.2.1, hp6.2.2.1⟩
                    have H6 := Lib.hid (And.intro h6 (And.intro (pq_equal hO hax hyb (by have := HI.out.2.2.2.2.2; omega) hxp hpy HPQ.out (hT.out (by trivial)).1 (hT.out (by trivial)).2 hp6) (HW5.out.2.trans k6)))
                    clear h6 hp6 k6 HC
                    go_wp2_with fail
                    go_roundw
                    case rel => exact ⟨m, y, l2, _, _, E, by omega, hxm.2, hyb, hl2, rfl, rfl, rfl, rfl, rfl, ⟨H6.out.1, Lib.hid H6.out.2.1⟩, H6.out.2.2⟩
                    case measure => simp [intOf]; omega
end Go.Proofs.YtcljffldbnoljaaGreatDoor
