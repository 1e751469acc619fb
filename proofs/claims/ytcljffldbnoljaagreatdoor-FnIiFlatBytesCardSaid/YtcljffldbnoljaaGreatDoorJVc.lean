/-
  sort.partition, sort.partitionEqual over index.recordSet, whatever order they sort by: what they leave of the row. Conditions: as each contract says.
  sort.partitionEqual over index.recordSet, whatever order it sorts by: what it leaves of the row. Conditions: as each contract says.
-/
import Derived.Test.YtcljffldbnoljaaGreatDoorJJc
import Derived.Test.YtcljffldbnoljaaGreatDoorJVb
namespace Go.Proofs.YtcljffldbnoljaaGreatDoor
open Go.RowKit Go.Sort
variable {α : Type} [Inhabited α]

set_option maxRecDepth 100000 in
set_option maxHeartbeats 4000000 in
theorem partition_I (rv : Value) (blk n : Nat) (R : World → Array α → Prop) (hS : SwapI rv blk n R) (lt : α → α → Bool) (hL : LessI rv n lt R) (a b pivot : Nat) (hap : a ≤ pivot) (hpb : pivot < b) (hb : b ≤ n) (hn : n ≤ 1000) (w : World) (D : Array α) (h : R w D) (hD : D.size = n) :
    Calls Tryz.prog 192 #[setV rv, .int .i64 a, .int .i64 b, .int .i64 pivot] w (fun e w' => (∃ (m : Nat) (G : Array α) (ap : Bool), e = .returned (.tuple #[.int .i64 m, .bool ap]) ∧ R w' G ∧ PartP lt a b D m G) ∧ Kp [blk] w w') := by
  have HI := Lib.hid (And.intro h (And.intro hS hL))
  have mL := lessM rv
  have mS := swapM rv
  clear h hS hL
  obtain ⟨J, hJ⟩ : ∃ J : Nat, b - 1 = J := ⟨_, rfl⟩
  obtain ⟨a1, ha1⟩ : ∃ a1 : Nat, a + 1 = a1 := ⟨_, rfl⟩
  have hw1 : IntKind.i64.wrap ((b : Int) - 1) = (J : Int) := by rw [IntKind.wrap_i64]; omega
  have hw2 : IntKind.i64.wrap ((a : Int) + 1) = (a1 : Int) := by rw [IntKind.wrap_i64]; omega
  have hbd : a < n ∧ J < n ∧ J < b ∧ b ≤ J + 1 ∧ a < a1 ∧ a1 ≤ a + 1 ∧ a1 ≤ J + 1 ∧ pivot < n := by omega
  obtain ⟨D1, hD1⟩ : ∃ D1, swp D a pivot = D1 := ⟨_, rfl⟩
  have hP1 : Hid (D1.size = n ∧ PI lt a b D a1 J D1) := Lib.hid (by rw [← hD1, ← hJ, ← ha1]; exact ⟨(swp_size _ _ _).trans hD, pi_start hap hpb (by omega)⟩)
  have HD := Lib.hid (And.intro hD hD1)
  clear hJ ha1 hD hD1
  have HS := Lib.hid (HI.out.2.1 w D HI.out.1 HD.out.1 a pivot hbd.1 hbd.2.2.2.2.2.2.2)
  go_enter Tryz.func192, Tryz.ntmps192
  go_wp2_with fail
  refine HS.out.mono ?_
  rintro e w2 ⟨rfl, h2, k2⟩
  rw [HD.out.2] at h2
  have H2 := Lib.hid (And.intro h2 k2)
  clear h2 k2 HS
  go_wp2_with fail
  go_loopw [10] (fun x wr => ∃ i : Nat, a1 ≤ i ∧ i ≤ J + 1 ∧ x = .int .i64 i ∧ (R wr D1 ∧ Hid (D1.size = n ∧ PI lt a b D i J D1)) ∧ Kp [blk] w wr) (fun x _ => J + 1 - (intOf x).toNat)
  case atStart => exact ⟨a1, Nat.le_refl _, by omega, rfl, ⟨H2.out.1, hP1⟩, H2.out.2⟩
  case round =>
    obtain ⟨i, hai, hij, rfl, ⟨hIn, hG⟩, hK⟩ := hrel
    have hwi : IntKind.i64.wrap ((i : Int) + 1) = (i : Int) + 1 := by rw [IntKind.wrap_i64]; omega
    by_cases hle : i ≤ J
    · have hdd : decide ((i : Int) ≤ (J : Int)) = true := by rw [decide_eq_true_eq]; omega
      have HL := Lib.hid (HI.out.2.2 wr D1 hIn hG.out.1 i a (by omega) (by omega))
      have HK := Lib.hid hK
      clear hIn hK
      go_wp2_with fail
      refine HL.out.mono ?_
      rintro e w3 ⟨rfl, hI3, b3⟩
      have HY := Lib.hid (And.intro hI3 (HK.out.old b3))
      obtain ⟨bb, hbb⟩ : ∃ bb, lt D1[i]! D1[a]! = bb := ⟨_, rfl⟩
      rw [hbb]
      have HB := Lib.hid hbb
      clear hI3 b3 hbb HL HK
      cases bb
      · go_wp2_with fail
        go_loopw [11] (fun x wr => ∃ j : Nat, j ≤ J ∧ i ≤ j + 1 ∧ x = .int .i64 j ∧ (R wr D1 ∧ Hid (D1.size = n ∧ PI lt a b D i j D1)) ∧ Kp [blk] w wr) (fun x _ => (intOf x).toNat)
        case atStart => exact ⟨J, Nat.le_refl _, by omega, rfl, ⟨HY.out.1, hG⟩, HY.out.2⟩
        case round =>
          obtain ⟨j, hjJ, hij2, rfl, ⟨hIn, hG⟩, hK⟩ := hrel
          have hwj : IntKind.i64.wrap ((j : Int) - 1) = (j : Int) - 1 := by rw [IntKind.wrap_i64]; omega
          by_cases hle2 : i ≤ j
          · have hdd : decide ((i : Int) ≤ (j : Int)) = true := by rw [decide_eq_true_eq]; omega
            have HL := Lib.hid (HI.out.2.2 wr D1 hIn hG.out.1 j a (by omega) (by omega))
            have HK := Lib.hid hK
            clear hIn hK
            go_wp2_with fail
            refine HL.out.mono ?_
            rintro e w3 ⟨rfl, hI3, b3⟩
            have HY := Lib.hid (And.intro hI3 (HK.out.old b3))
            obtain ⟨bb, hbb⟩ : ∃ bb, lt D1[j]! D1[a]! = bb := ⟨_, rfl⟩
            rw [hbb]
            have HB2 := Lib.hid hbb
            clear hI3 b3 hbb HL HK
            cases bb
            · go_wp2_with fail
              go_roundw
              case rel => exact ⟨j - 1, by omega, by omega, by congr 1; omega, ⟨HY.out.1, Lib.hid ⟨hG.out.1, pi_down hG.out.2 HB2.out⟩⟩, HY.out.2⟩
              case measure => simp [intOf]; omega
            · have hgt : decide ((j : Int) < (i : Int)) = false := by rw [decide_eq_false_iff_not]; omega
              have hne : i ≠ j := by
                intro e
                have e1 := HB.out
                rw [e, HB2.out] at e1
                cases e1
              have HS := Lib.hid (HI.out.2.1 w3 D1 HY.out.1 hG.out.1 i j (by omega) (by omega))
              have HF := Lib.hid HY.out.2
              go_wp2_with fail
              refine HS.out.mono ?_
              rintro e w6 ⟨rfl, h6, k6⟩
              have H6 := Lib.hid (And.intro h6 (HF.out.trans k6))
              clear h6 k6 HS
              have hwi2 : IntKind.i64.wrap ((i : Int) + 1) = ((i + 1 : Nat) : Int) := by rw [IntKind.wrap_i64]; omega
              have hwj2 : IntKind.i64.wrap ((j : Int) - 1) = ((j - 1 : Nat) : Int) := by rw [IntKind.wrap_i64]; omega
              go_wp2_with fail
              clear hwi2 hwj2 hwi hwj hdd hgt
              have H7 : Hid ((swp D1 i j).size = n ∧ PI lt a b D (i + 1) (j - 1) (swp D1 i j)) := Lib.hid ⟨(swp_size _ _ _).trans hG.out.1, pi_swap hG.out.2 (by omega) (by omega) (by omega) (by have := HD.out.1; omega) HB.out HB2.out⟩
              go_loopw [10, 11] (fun x y wr => ∃ (i j : Nat) (G : Array α), a < i ∧ i ≤ j + 1 ∧ j ≤ J ∧ x = .int .i64 i ∧ y = .int .i64 j ∧ (R wr G ∧ Hid (G.size = n ∧ PI lt a b D i j G)) ∧ Kp [blk] w wr) (fun x y _ => (intOf y + 1 - intOf x).toNat)
              case atStart => exact ⟨i + 1, j - 1, swp D1 i j, by omega, by omega, by omega, by go_num, by congr 1; omega, ⟨H6.out.1, H7⟩, H6.out.2⟩
              case round =>
                obtain ⟨i0, j0, G, hai0, hij0, hjJ0, rfl, rfl, ⟨hIn, hG⟩, hK⟩ := hrel
                have HO := Lib.hid (And.intro hIn hK)
                clear hIn hK
                go_wp2_with fail
                go_loopw [10] (fun x wr => ∃ i : Nat, i0 ≤ i ∧ i ≤ j0 + 1 ∧ x = .int .i64 i ∧ (R wr G ∧ Hid (G.size = n ∧ PI lt a b D i j0 G)) ∧ Kp [blk] w wr) (fun x _ => j0 + 1 - (intOf x).toNat)
                case atStart => exact ⟨i0, Nat.le_refl _, by omega, rfl, ⟨HO.out.1, hG⟩, HO.out.2⟩
                case round =>
                  obtain ⟨i, hai, hij, rfl, ⟨hIn, hG⟩, hK⟩ := hrel
                  have hwi : IntKind.i64.wrap ((i : Int) + 1) = (i : Int) + 1 := by rw [IntKind.wrap_i64]; omega
                  by_cases hle : i ≤ j0
                  · have hdd : decide ((i : Int) ≤ (j0 : Int)) = true := by rw [decide_eq_true_eq]; omega
                    have HL := Lib.hid (HI.out.2.2 wr G hIn hG.out.1 i a (by omega) (by omega))
                    have HK := Lib.hid hK
                    clear hIn hK
                    go_wp2_with fail
                    refine HL.out.mono ?_
                    rintro e w3 ⟨rfl, hI3, b3⟩
                    have HY := Lib.hid (And.intro hI3 (HK.out.old b3))
                    obtain ⟨bb, hbb⟩ : ∃ bb, lt G[i]! G[a]! = bb := ⟨_, rfl⟩
                    rw [hbb]
                    have HB := Lib.hid hbb
                    clear hI3 b3 hbb HL HK
                    cases bb
                    · go_wp2_with fail
                      go_loopw [11] (fun x wr => ∃ j : Nat, j ≤ j0 ∧ i ≤ j + 1 ∧ x = .int .i64 j ∧ (R wr G ∧ Hid (G.size = n ∧ PI lt a b D i j G)) ∧ Kp [blk] w wr) (fun x _ => (intOf x).toNat)
                      case atStart => exact ⟨j0, Nat.le_refl _, by omega, rfl, ⟨HY.out.1, hG⟩, HY.out.2⟩
                      case round =>
                        obtain ⟨j, hjJ, hij2, rfl, ⟨hIn, hG⟩, hK⟩ := hrel
                        have hwj : IntKind.i64.wrap ((j : Int) - 1) = (j : Int) - 1 := by rw [IntKind.wrap_i64]; omega
                        by_cases hle2 : i ≤ j
                        · have hdd : decide ((i : Int) ≤ (j : Int)) = true := by rw [decide_eq_true_eq]; omega
                          have HL := Lib.hid (HI.out.2.2 wr G hIn hG.out.1 j a (by omega) (by omega))
                          have HK := Lib.hid hK
                          clear hIn hK
                          go_wp2_with fail
                          refine HL.out.mono ?_
                          rintro e w3 ⟨rfl, hI3, b3⟩
                          have HY := Lib.hid (And.intro hI3 (HK.out.old b3))
                          obtain ⟨bb, hbb⟩ : ∃ bb, lt G[j]! G[a]! = bb := ⟨_, rfl⟩
                          rw [hbb]
                          have HB2 := Lib.hid hbb
                          clear hI3 b3 hbb HL HK
                          cases bb
                          · go_wp2_with fail
                            go_roundw
                            case rel => exact ⟨j - 1, by omega, by omega, by congr 1; omega, ⟨HY.out.1, Lib.hid ⟨hG.out.1, pi_down hG.out.2 HB2.out⟩⟩, HY.out.2⟩
                            case measure => simp [intOf]; omega
                          · have hgt : decide ((j : Int) < (i : Int)) = false := by rw [decide_eq_false_iff_not]; omega
                            have hne : i ≠ j := by
                              intro e
                              have e1 := HB.out
                              rw [e, HB2.out] at e1
                              cases e1
                            have HS := Lib.hid (HI.out.2.1 w3 G HY.out.1 hG.out.1 i j (by omega) (by omega))
                            have HF := Lib.hid HY.out.2
                            go_wp2_with fail
                            refine HS.out.mono ?_
                            rintro e w6 ⟨rfl, h6, k6⟩
                            have H6 := Lib.hid (And.intro h6 (HF.out.trans k6))
                            clear h6 k6 HS
                            go_wp2_with fail
                            go_roundw
                            case rel => exact ⟨i + 1, j - 1, swp G i j, by omega, by omega, by omega, by go_num, by congr 1; omega, ⟨H6.out.1, Lib.hid ⟨(swp_size _ _ _).trans hG.out.1, pi_swap hG.out.2 (by omega) (by omega) (by omega) (by have := HD.out.1; omega) HB.out HB2.out⟩⟩, H6.out.2⟩
                            case measure => simp [intOf]; omega
                        · have hdd : decide ((i : Int) ≤ (j : Int)) = false := by rw [decide_eq_false_iff_not]; omega
                          have hgt : decide ((j : Int) < (i : Int)) = true := by rw [decide_eq_true_eq]; omega
                          have HE := Lib.hid (And.intro hIn hK)
                          clear hIn hK
                          have HS := Lib.hid (HI.out.2.1 wr G HE.out.1 hG.out.1 j a (by omega) (by omega))
                          have HF := Lib.hid HE.out.2
                          go_wp2_with fail
                          refine HS.out.mono ?_
                          rintro e w6 ⟨rfl, h6, k6⟩
                          have H6 := Lib.hid (And.intro h6 (HF.out.trans k6))
                          clear h6 k6 HS
                          go_wp2_with fail
                          refine bodyPost_ret (v := .tuple #[.int .i64 j, .bool false]) (by simp [results, Tryz.results192, go_sem]) rfl ⟨⟨_, _, _, rfl, H6.out.1, pi_end hG.out.2 (by omega) (by omega) (by omega) (by have := HD.out.1; omega)⟩, H6.out.2⟩
                    · go_wp2_with fail
                      go_roundw
                      case rel => exact ⟨i + 1, by omega, by omega, by go_num, ⟨HY.out.1, Lib.hid ⟨hG.out.1, pi_up hG.out.2 HB.out⟩⟩, HY.out.2⟩
                      case measure => simp [intOf]; omega
                  · have hdd : decide ((i : Int) ≤ (j0 : Int)) = false := by rw [decide_eq_false_iff_not]; omega
                    have HE := Lib.hid (And.intro hIn hK)
                    clear hIn hK
                    go_wp2_with fail
                    clear hdd
                    go_loopw [11] (fun x wr => ∃ j : Nat, j ≤ j0 ∧ i ≤ j + 1 ∧ x = .int .i64 j ∧ (R wr G ∧ Hid (G.size = n ∧ PI lt a b D i j G)) ∧ Kp [blk] w wr) (fun x _ => (intOf x).toNat)
                    case atStart => exact ⟨j0, Nat.le_refl _, by omega, rfl, ⟨HE.out.1, hG⟩, HE.out.2⟩
                    case round =>
                      obtain ⟨j, hjJ, hij2, rfl, ⟨hIn, hG⟩, hK⟩ := hrel
                      have hwj : IntKind.i64.wrap ((j : Int) - 1) = (j : Int) - 1 := by rw [IntKind.wrap_i64]; omega
                      by_cases hle2 : i ≤ j
                      · exfalso; omega
                      · have hdd : decide ((i : Int) ≤ (j : Int)) = false := by rw [decide_eq_false_iff_not]; omega
                        have hgt : decide ((j : Int) < (i : Int)) = true := by rw [decide_eq_true_eq]; omega
                        have HE := Lib.hid (And.intro hIn hK)
                        clear hIn hK
                        have HS := Lib.hid (HI.out.2.1 wr G HE.out.1 hG.out.1 j a (by omega) (by omega))
                        have HF := Lib.hid HE.out.2
                        go_wp2_with fail
                        refine HS.out.mono ?_
                        rintro e w6 ⟨rfl, h6, k6⟩
                        have H6 := Lib.hid (And.intro h6 (HF.out.trans k6))
                        clear h6 k6 HS
                        go_wp2_with fail
                        refine bodyPost_ret (v := .tuple #[.int .i64 j, .bool false]) (by simp [results, Tryz.results192, go_sem]) rfl ⟨⟨_, _, _, rfl, H6.out.1, pi_end hG.out.2 (by omega) (by omega) (by omega) (by have := HD.out.1; omega)⟩, H6.out.2⟩
          · have hdd : decide ((i : Int) ≤ (j : Int)) = false := by rw [decide_eq_false_iff_not]; omega
            have hgt : decide ((j : Int) < (i : Int)) = true := by rw [decide_eq_true_eq]; omega
            have HE := Lib.hid (And.intro hIn hK)
            clear hIn hK
            have HS := Lib.hid (HI.out.2.1 wr D1 HE.out.1 hG.out.1 j a (by omega) (by omega))
            have HF := Lib.hid HE.out.2
            go_wp2_with fail
            refine HS.out.mono ?_
            rintro e w6 ⟨rfl, h6, k6⟩
            have H6 := Lib.hid (And.intro h6 (HF.out.trans k6))
            clear h6 k6 HS
            go_wp2_with fail
            refine bodyPost_ret (v := .tuple #[.int .i64 j, .bool true]) (by simp [results, Tryz.results192, go_sem]) rfl ⟨⟨_, _, _, rfl, H6.out.1, pi_end hG.out.2 (by omega) (by omega) (by omega) (by have := HD.out.1; omega)⟩, H6.out.2⟩
      · go_wp2_with fail
        go_roundw
        case rel => exact ⟨i + 1, by omega, by omega, by go_num, ⟨HY.out.1, Lib.hid ⟨hG.out.1, pi_up hG.out.2 HB.out⟩⟩, HY.out.2⟩
        case measure => simp [intOf]; omega
    · have hdd : decide ((i : Int) ≤ (J : Int)) = false := by rw [decide_eq_false_iff_not]; omega
      have HE := Lib.hid (And.intro hIn hK)
      clear hIn hK
      go_wp2_with fail
      clear hdd
      go_loopw [11] (fun x wr => ∃ j : Nat, j ≤ J ∧ i ≤ j + 1 ∧ x = .int .i64 j ∧ (R wr D1 ∧ Hid (D1.size = n ∧ PI lt a b D i j D1)) ∧ Kp [blk] w wr) (fun x _ => (intOf x).toNat)
      case atStart => exact ⟨J, Nat.le_refl _, by omega, rfl, ⟨HE.out.1, hG⟩, HE.out.2⟩
      case round =>
        obtain ⟨j, hjJ, hij2, rfl, ⟨hIn, hG⟩, hK⟩ := hrel
        have hwj : IntKind.i64.wrap ((j : Int) - 1) = (j : Int) - 1 := by rw [IntKind.wrap_i64]; omega
        by_cases hle2 : i ≤ j
        · exfalso; omega
        · have hdd : decide ((i : Int) ≤ (j : Int)) = false := by rw [decide_eq_false_iff_not]; omega
          have hgt : decide ((j : Int) < (i : Int)) = true := by rw [decide_eq_true_eq]; omega
          have HE := Lib.hid (And.intro hIn hK)
          clear hIn hK
          have HS := Lib.hid (HI.out.2.1 wr D1 HE.out.1 hG.out.1 j a (by omega) (by omega))
          have HF := Lib.hid HE.out.2
          go_wp2_with fail
          refine HS.out.mono ?_
          rintro e w6 ⟨rfl, h6, k6⟩
          have H6 := Lib.hid (And.intro h6 (HF.out.trans k6))
          clear h6 k6 HS
          go_wp2_with fail
          refine bodyPost_ret (v := .tuple #[.int .i64 j, .bool true]) (by simp [results, Tryz.results192, go_sem]) rfl ⟨⟨_, _, _, rfl, H6.out.1, pi_end hG.out.2 (by omega) (by omega) (by omega) (by have := HD.out.1; omega)⟩, H6.out.2⟩
end Go.Proofs.YtcljffldbnoljaaGreatDoor

namespace Go.Proofs.YtcljffldbnoljaaGreatDoor
open Go.RowKit Go.Sort
variable {α : Type} [Inhabited α]

set_option maxRecDepth 100000 in
set_option maxHeartbeats 4000000 in
theorem partitionEqual_I (rv : Value) (blk n : Nat) (R : World → Array α → Prop) (hS : SwapI rv blk n R) (lt : α → α → Bool) (hO : SWO lt) (hL : LessI rv n lt R) (a b pivot : Nat) (hap : a ≤ pivot) (hpb : pivot < b) (hb : b ≤ n) (hn : n ≤ 1000) (w : World) (D : Array α) (h : R w D) (hD : D.size = n) :
    Calls Tryz.prog 191 #[setV rv, .int .i64 a, .int .i64 b, .int .i64 pivot] w (fun e w' => (∃ (m : Nat) (G : Array α), e = .returned (.int .i64 m) ∧ R w' G ∧ PartQ lt a b (swp D a pivot) m G) ∧ Kp [blk] w w') := by
  have HI := Lib.hid (And.intro h (And.intro hS hL))
  have mL := lessM rv
  have mS := swapM rv
  clear h hS hL
  obtain ⟨J, hJ⟩ : ∃ J : Nat, b - 1 = J := ⟨_, rfl⟩
  obtain ⟨a1, ha1⟩ : ∃ a1 : Nat, a + 1 = a1 := ⟨_, rfl⟩
  have hw1 : IntKind.i64.wrap ((b : Int) - 1) = (J : Int) := by rw [IntKind.wrap_i64]; omega
  have hw2 : IntKind.i64.wrap ((a : Int) + 1) = (a1 : Int) := by rw [IntKind.wrap_i64]; omega
  have hbd : a < n ∧ J < n ∧ J < b ∧ b ≤ J + 1 ∧ a < a1 ∧ a1 ≤ a + 1 ∧ a1 ≤ J + 1 ∧ pivot < n := by omega
  obtain ⟨D1, hD1⟩ : ∃ D1, swp D a pivot = D1 := ⟨_, rfl⟩
  have hP1 : Hid (D1.size = n ∧ QI lt a b D1 a1 J D1) := Lib.hid (by rw [← hD1, ← hJ, ← ha1]; exact ⟨(swp_size _ _ _).trans hD, qi_start⟩)
  have HD := Lib.hid (And.intro hD hD1)
  clear hJ ha1 hD hD1
  have HS := Lib.hid (HI.out.2.1 w D HI.out.1 HD.out.1 a pivot hbd.1 hbd.2.2.2.2.2.2.2)
  go_enter Tryz.func191, Tryz.ntmps191
  go_wp2_with fail
  refine HS.out.mono ?_
  rintro e w2 ⟨rfl, h2, k2⟩
  rw [HD.out.2] at h2
  have H2 := Lib.hid (And.intro h2 k2)
  clear h2 k2 HS
  go_wp2_with fail
  go_loopw [9, 10] (fun x y wr => ∃ (i j : Nat) (G : Array α), a < i ∧ i ≤ j + 1 ∧ j ≤ J ∧ x = .int .i64 i ∧ y = .int .i64 j ∧ (R wr G ∧ Hid (G.size = n ∧ QI lt a b D1 i j G)) ∧ Kp [blk] w wr) (fun x y _ => (intOf y + 1 - intOf x).toNat)
  case atStart => exact ⟨a1, J, D1, by omega, by omega, by omega, rfl, rfl, ⟨H2.out.1, hP1⟩, H2.out.2⟩
  case round =>
    obtain ⟨i0, j0, G, hai0, hij0, hjJ0, rfl, rfl, ⟨hIn, hG⟩, hK⟩ := hrel
    have HO := Lib.hid (And.intro hIn hK)
    clear hIn hK
    go_wp2_with fail
    go_loopw [9] (fun x wr => ∃ i : Nat, i0 ≤ i ∧ i ≤ j0 + 1 ∧ x = .int .i64 i ∧ (R wr G ∧ Hid (G.size = n ∧ QI lt a b D1 i j0 G)) ∧ Kp [blk] w wr) (fun x _ => j0 + 1 - (intOf x).toNat)
    case atStart => exact ⟨i0, Nat.le_refl _, by omega, rfl, ⟨HO.out.1, hG⟩, HO.out.2⟩
    case round =>
      obtain ⟨i, hai, hij, rfl, ⟨hIn, hG⟩, hK⟩ := hrel
      have hwi : IntKind.i64.wrap ((i : Int) + 1) = (i : Int) + 1 := by rw [IntKind.wrap_i64]; omega
      by_cases hle : i ≤ j0
      · have hdd : decide ((i : Int) ≤ (j0 : Int)) = true := by rw [decide_eq_true_eq]; omega
        have HL := Lib.hid (HI.out.2.2 wr G hIn hG.out.1 a i (by omega) (by omega))
        have HK := Lib.hid hK
        clear hIn hK
        go_wp2_with fail
        refine HL.out.mono ?_
        rintro e w3 ⟨rfl, hI3, b3⟩
        have HY := Lib.hid (And.intro hI3 (HK.out.old b3))
        obtain ⟨bb, hbb⟩ : ∃ bb, lt G[a]! G[i]! = bb := ⟨_, rfl⟩
        rw [hbb]
        have HB := Lib.hid hbb
        clear hI3 b3 hbb HL HK
        cases bb
        · go_wp2_with fail
          go_roundw
          case rel => exact ⟨i + 1, by omega, by omega, by go_num, ⟨HY.out.1, Lib.hid ⟨hG.out.1, qi_up hG.out.2 HB.out⟩⟩, HY.out.2⟩
          case measure => simp [intOf]; omega
        · go_wp2_with fail
          go_loopw [10] (fun x wr => ∃ j : Nat, j ≤ j0 ∧ i ≤ j + 1 ∧ x = .int .i64 j ∧ (R wr G ∧ Hid (G.size = n ∧ QI lt a b D1 i j G)) ∧ Kp [blk] w wr) (fun x _ => (intOf x).toNat)
          case atStart => exact ⟨j0, Nat.le_refl _, by omega, rfl, ⟨HY.out.1, hG⟩, HY.out.2⟩
          case round =>
            obtain ⟨j, hjJ, hij2, rfl, ⟨hIn, hG⟩, hK⟩ := hrel
            have hwj : IntKind.i64.wrap ((j : Int) - 1) = (j : Int) - 1 := by rw [IntKind.wrap_i64]; omega
            by_cases hle2 : i ≤ j
            · have hdd : decide ((i : Int) ≤ (j : Int)) = true := by rw [decide_eq_true_eq]; omega
              have HL := Lib.hid (HI.out.2.2 wr G hIn hG.out.1 a j (by omega) (by omega))
              have HK := Lib.hid hK
              clear hIn hK
              go_wp2_with fail
              refine HL.out.mono ?_
              rintro e w3 ⟨rfl, hI3, b3⟩
              have HY := Lib.hid (And.intro hI3 (HK.out.old b3))
              obtain ⟨bb, hbb⟩ : ∃ bb, lt G[a]! G[j]! = bb := ⟨_, rfl⟩
              rw [hbb]
              have HB2 := Lib.hid hbb
              clear hI3 b3 hbb HL HK
              cases bb
              · have hgt : decide ((j : Int) < (i : Int)) = false := by rw [decide_eq_false_iff_not]; omega
                have hne : i ≠ j := by
                  intro e
                  have e1 := HB.out
                  rw [e, HB2.out] at e1
                  cases e1
                have HS := Lib.hid (HI.out.2.1 w3 G HY.out.1 hG.out.1 i j (by omega) (by omega))
                have HF := Lib.hid HY.out.2
                go_wp2_with fail
                refine HS.out.mono ?_
                rintro e w6 ⟨rfl, h6, k6⟩
                have H6 := Lib.hid (And.intro h6 (HF.out.trans k6))
                clear h6 k6 HS
                go_wp2_with fail
                go_roundw
                case rel => exact ⟨i + 1, j - 1, swp G i j, by omega, by omega, by omega, by go_num, by congr 1; omega, ⟨H6.out.1, Lib.hid ⟨(swp_size _ _ _).trans hG.out.1, qi_swap hG.out.2 (by omega) (by omega) (by omega) (by have := hP1.out.1; omega) HB.out HB2.out⟩⟩, H6.out.2⟩
                case measure => simp [intOf]; omega
              · go_wp2_with fail
                go_roundw
                case rel => exact ⟨j - 1, by omega, by omega, by congr 1; omega, ⟨HY.out.1, Lib.hid ⟨hG.out.1, qi_down hG.out.2 HB2.out⟩⟩, HY.out.2⟩
                case measure => simp [intOf]; omega
            · have hdd : decide ((i : Int) ≤ (j : Int)) = false := by rw [decide_eq_false_iff_not]; omega
              have hgt : decide ((j : Int) < (i : Int)) = true := by rw [decide_eq_true_eq]; omega
              have H6 := Lib.hid (And.intro hIn hK)
              clear hIn hK
              go_wp2_with fail
              refine bodyPost_ret (v := .int .i64 i) (by simp [results, Tryz.results191, go_sem]) rfl ⟨⟨_, _, rfl, H6.out.1, ?_⟩, H6.out.2⟩
              rw [HD.out.2]
              exact qi_end hO hG.out.2 (by omega) (by omega) (by omega)
      · have hdd : decide ((i : Int) ≤ (j0 : Int)) = false := by rw [decide_eq_false_iff_not]; omega
        have HE := Lib.hid (And.intro hIn hK)
        clear hIn hK
        go_wp2_with fail
        clear hdd
        go_loopw [10] (fun x wr => ∃ j : Nat, j ≤ j0 ∧ i ≤ j + 1 ∧ x = .int .i64 j ∧ (R wr G ∧ Hid (G.size = n ∧ QI lt a b D1 i j G)) ∧ Kp [blk] w wr) (fun x _ => (intOf x).toNat)
        case atStart => exact ⟨j0, Nat.le_refl _, by omega, rfl, ⟨HE.out.1, hG⟩, HE.out.2⟩
        case round =>
          obtain ⟨j, hjJ, hij2, rfl, ⟨hIn, hG⟩, hK⟩ := hrel
          have hwj : IntKind.i64.wrap ((j : Int) - 1) = (j : Int) - 1 := by rw [IntKind.wrap_i64]; omega
          by_cases hle2 : i ≤ j
          · exfalso; omega
          · have hdd : decide ((i : Int) ≤ (j : Int)) = false := by rw [decide_eq_false_iff_not]; omega
            have hgt : decide ((j : Int) < (i : Int)) = true := by rw [decide_eq_true_eq]; omega
            have H6 := Lib.hid (And.intro hIn hK)
            clear hIn hK
            go_wp2_with fail
            refine bodyPost_ret (v := .int .i64 i) (by simp [results, Tryz.results191, go_sem]) rfl ⟨⟨_, _, rfl, H6.out.1, ?_⟩, H6.out.2⟩
            rw [HD.out.2]
            exact qi_end hO hG.out.2 (by omega) (by omega) (by omega)
end Go.Proofs.YtcljffldbnoljaaGreatDoor
