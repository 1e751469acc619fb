/-
  sort.symMerge_func, whatever order it merges by: what it leaves of the row. Conditions: as the contract says.
-/
import Derived.Test.YtlafdmmjbkdkaaaGreatDoorPa
namespace Go.Proofs.YtlafdmmjbkdkaaaGreatDoor
open Go.RowKit

set_option maxRecDepth 100000 in
set_option maxHeartbeats 8000000 in
theorem symMerge_loose (lp s1 s2 : Value) (blk n : Nat) (Inv : World → Prop) (hI : InvOk Inv) (hS : SwapOk s1 s2 blk n Inv) (hL : LessOk lp n Inv) (hn : n ≤ 1000) : ∀ (q a m b : Nat), a < m → m < b → b ≤ n → b - a ≤ q → ∀ w, Inv w → blk < w.heap.size →
    Calls Tryz.prog 127 #[.agg (dataV lp s1 s2), .int .i64 a, .int .i64 m, .int .i64 b] w fun e w' => e = .returned (.tuple #[]) ∧ Inv w' ∧ Kp [blk] w w' := by
  intro q
  induction q with
  | zero => intro a m b h1 h2 h3 h4; omega
  | succ q ih =>
  intro a m b ham hmb hb hq w h hblk
  obtain ⟨d, hd⟩ : ∃ d, w.heap.size = d := ⟨_, rfl⟩
  obtain ⟨V, hV⟩ : ∃ V, w.alloc (.cells (dataV lp s1 s2) 180) = V := ⟨_, rfl⟩
  have bV : Below w.heap.size w V := by rw [← hV]; exact Old.alloc (Below.refl _ _) _
  have BV : Blk V d 180 (dataV lp s1 s2) := by rw [← hV, ← hd]; exact Blk.new _ _ _
  have hdb : d ≠ blk := by omega
  have hdb' : d ∉ [blk] := by simpa using hdb
  have hbV : blk < V.heap.size := Nat.lt_of_lt_of_le hblk bV.size
  have HI := Lib.hid (And.intro (hI w V h bV) (And.intro bV (And.intro BV (And.intro hS (And.intro hL hI)))))
  have IH := Lib.hid ih
  clear h bV BV ih
  by_cases h1 : m - a = 1
  · have hma : IntKind.i64.wrap ((m : Int) - (a : Int)) = 1 := by rw [IntKind.wrap_i64]; omega
    go_enter Tryz.func127, Tryz.ntmps127
    go_wp2_with fail
    clear hV hd hma
    go_loopw [8, 9] (fun x y wr => ∃ i j : Nat, m ≤ i ∧ i ≤ j ∧ j ≤ b ∧ x = .int .i64 i ∧ y = .int .i64 j ∧ Inv wr ∧ Kp [blk] V wr) (fun x y _ => (intOf y).toNat - (intOf x).toNat)
    case atStart => exact ⟨m, b, Nat.le_refl _, by omega, Nat.le_refl _, rfl, rfl, HI.out.1, Kp.refl _ _⟩
    case round =>
      obtain ⟨i, j, hmi, hij, hjb, rfl, rfl, hIn, hK⟩ := hrel
      by_cases hlt : i < j
      · have hdd : decide ((i : Int) < (j : Int)) = true := by rw [decide_eq_true_eq]; omega
        obtain ⟨hh, hhe⟩ : ∃ hh : Nat, (i + j) / 2 = hh := ⟨_, rfl⟩
        have hdiv : ((i : Int) + (j : Int)) / 2 = (hh : Int) := by omega
        have hwh : IntKind.i64.wrap ((hh : Int) + 1) = (hh : Int) + 1 := by rw [IntKind.wrap_i64]; omega
        have hhb : i ≤ hh ∧ hh < j := by omega
        clear hhe
        have hB := HI.out.2.2.1.kp hK hdb'
        have c0 : wr.cell? ⟨d, 0, none⟩ = some (.func (.func 86) #[] #[lp]) := hB.cell 0
        have hl := HI.out.2.2.2.2.1 wr hIn hh a (by omega) (by omega)
        have HL := Lib.hid hl
        have HK := Lib.hid hK
        clear hl hIn hK hB
        go_wp2_with fail
        refine HL.out.mono ?_
        rintro e w3 ⟨⟨bb, rfl⟩, hI3, b3⟩
        have HY := Lib.hid (And.intro hI3 (HK.out.old b3))
        clear hI3 b3 c0
        cases bb
        · go_wp2_with fail
          go_roundw
          case rel => exact ⟨i, hh, hmi, by omega, by omega, rfl, rfl, HY.out.1, HY.out.2⟩
          case measure => simp [intOf]; omega
        · go_wp2_with fail
          go_roundw
          case rel => exact ⟨hh + 1, j, by omega, by omega, hjb, by go_num, rfl, HY.out.1, HY.out.2⟩
          case measure => simp [intOf]; omega
      · have hdd : decide ((i : Int) < (j : Int)) = false := by rw [decide_eq_false_iff_not]; omega
        have HY := Lib.hid (And.intro hIn hK)
        clear hIn hK
        go_wp2_with fail
        clear hdd
        go_loopw [11] (fun x wr => ∃ k : Nat, a ≤ k ∧ k ≤ i ∧ x = .int .i64 k ∧ Inv wr ∧ Kp [blk] V wr) (fun x _ => i - (intOf x).toNat)
        case atStart => exact ⟨a, Nat.le_refl _, by omega, rfl, HY.out.1, HY.out.2⟩
        case round =>
          clear HY
          obtain ⟨k, hak, hki, rfl, hIn, hK⟩ := hrel
          have hwi : IntKind.i64.wrap ((i : Int) - 1) = (i : Int) - 1 := by rw [IntKind.wrap_i64]; omega
          have hwk : IntKind.i64.wrap ((k : Int) + 1) = (k : Int) + 1 := by rw [IntKind.wrap_i64]; omega
          by_cases hlt2 : k + 1 < i
          · have hdd : decide ((k : Int) < (i : Int) - 1) = true := by rw [decide_eq_true_eq]; omega
            have hB := HI.out.2.2.1.kp hK hdb'
            have c1 : wr.cell? ⟨d, 1, none⟩ = some (.func (.func 113) #[] #[s1, s2]) := hB.cell 1
            obtain ⟨W', hs, hI', hK'⟩ := HI.out.2.2.2.1 wr hIn k (k + 1) (by omega) (by omega)
            rw [show ((k + 1 : Nat) : Int) = (k : Int) + 1 by omega] at hs
            have HSw := Lib.hid hs
            have HY := Lib.hid (And.intro hI' (hK.trans hK'))
            clear hs hI' hK' hIn hK hB
            go_wp2_with fail
            rw [HSw.out, Oper.upon_value]
            go_wp2_with fail
            go_roundw
            case rel => exact ⟨k + 1, by omega, by omega, by go_num, HY.out.1, HY.out.2⟩
            case measure => simp [intOf]; omega
          · have hdd : decide ((k : Int) < (i : Int) - 1) = false := by rw [decide_eq_false_iff_not]; omega
            have HY := Lib.hid (And.intro hIn hK)
            clear hIn hK
            go_wp2_with fail
            refine bodyPost_ret (results_none rfl _ _ _) rfl ?_
            exact ⟨rfl, HY.out.1, (Kp.of_below HI.out.2.1 [blk]).trans HY.out.2⟩
  obtain ⟨ma, hmae⟩ : ∃ ma : Nat, m - a = ma := ⟨_, rfl⟩
  have hma : IntKind.i64.wrap ((m : Int) - (a : Int)) = (ma : Int) := by rw [IntKind.wrap_i64]; omega
  have hma1 : ¬ ma = 1 := by omega
  have hma2 : ((ma : Int) == 1) = false := by rw [beq_eq_false_iff_ne]; omega
  clear hmae
  by_cases h2 : b - m = 1
  · have hbm : IntKind.i64.wrap ((b : Int) - (m : Int)) = 1 := by rw [IntKind.wrap_i64]; omega
    go_enter Tryz.func127, Tryz.ntmps127
    go_wp2_with fail
    clear hV hd hma hbm
    go_loopw [12, 13] (fun x y wr => ∃ i j : Nat, a ≤ i ∧ i ≤ j ∧ j ≤ m ∧ x = .int .i64 i ∧ y = .int .i64 j ∧ Inv wr ∧ Kp [blk] V wr) (fun x y _ => (intOf y).toNat - (intOf x).toNat)
    case atStart => exact ⟨a, m, Nat.le_refl _, by omega, Nat.le_refl _, rfl, rfl, HI.out.1, Kp.refl _ _⟩
    case round =>
      obtain ⟨i, j, hmi, hij, hjb, rfl, rfl, hIn, hK⟩ := hrel
      by_cases hlt : i < j
      · have hdd : decide ((i : Int) < (j : Int)) = true := by rw [decide_eq_true_eq]; omega
        obtain ⟨hh, hhe⟩ : ∃ hh : Nat, (i + j) / 2 = hh := ⟨_, rfl⟩
        have hdiv : ((i : Int) + (j : Int)) / 2 = (hh : Int) := by omega
        have hwh : IntKind.i64.wrap ((hh : Int) + 1) = (hh : Int) + 1 := by rw [IntKind.wrap_i64]; omega
        have hhb : i ≤ hh ∧ hh < j := by omega
        clear hhe
        have hB := HI.out.2.2.1.kp hK hdb'
        have c0 : wr.cell? ⟨d, 0, none⟩ = some (.func (.func 86) #[] #[lp]) := hB.cell 0
        have hl := HI.out.2.2.2.2.1 wr hIn m hh (by omega) (by omega)
        have HL := Lib.hid hl
        have HK := Lib.hid hK
        clear hl hIn hK hB
        go_wp2_with fail
        refine HL.out.mono ?_
        rintro e w3 ⟨⟨bb, rfl⟩, hI3, b3⟩
        have HY := Lib.hid (And.intro hI3 (HK.out.old b3))
        clear hI3 b3 c0
        cases bb
        · go_wp2_with fail
          go_roundw
          case rel => exact ⟨hh + 1, j, by omega, by omega, hjb, by go_num, rfl, HY.out.1, HY.out.2⟩
          case measure => simp [intOf]; omega
        · go_wp2_with fail
          go_roundw
          case rel => exact ⟨i, hh, hmi, by omega, by omega, rfl, rfl, HY.out.1, HY.out.2⟩
          case measure => simp [intOf]; omega
      · have hdd : decide ((i : Int) < (j : Int)) = false := by rw [decide_eq_false_iff_not]; omega
        have HY := Lib.hid (And.intro hIn hK)
        clear hIn hK
        go_wp2_with fail
        clear hdd
        go_loopw [15] (fun x wr => ∃ k : Nat, i ≤ k ∧ k ≤ m ∧ x = .int .i64 k ∧ Inv wr ∧ Kp [blk] V wr) (fun x _ => (intOf x).toNat)
        case atStart => exact ⟨m, by omega, Nat.le_refl _, rfl, HY.out.1, HY.out.2⟩
        case round =>
          clear HY
          obtain ⟨k, hik, hkm, rfl, hIn, hK⟩ := hrel
          have hwk : IntKind.i64.wrap ((k : Int) - 1) = (k : Int) - 1 := by rw [IntKind.wrap_i64]; omega
          by_cases hlt2 : i < k
          · have hdd : decide ((i : Int) < (k : Int)) = true := by rw [decide_eq_true_eq]; omega
            have hB := HI.out.2.2.1.kp hK hdb'
            have c1 : wr.cell? ⟨d, 1, none⟩ = some (.func (.func 113) #[] #[s1, s2]) := hB.cell 1
            obtain ⟨W', hs, hI', hK'⟩ := HI.out.2.2.2.1 wr hIn k (k - 1) (by omega) (by omega)
            rw [show ((k - 1 : Nat) : Int) = (k : Int) - 1 by omega] at hs
            have HSw := Lib.hid hs
            have HY := Lib.hid (And.intro hI' (hK.trans hK'))
            clear hs hI' hK' hIn hK hB
            go_wp2_with fail
            rw [HSw.out, Oper.upon_value]
            go_wp2_with fail
            go_roundw
            case rel => exact ⟨k - 1, by omega, by omega, by congr 1; omega, HY.out.1, HY.out.2⟩
            case measure => simp [intOf]; omega
          · have hdd : decide ((i : Int) < (k : Int)) = false := by rw [decide_eq_false_iff_not]; omega
            have HY := Lib.hid (And.intro hIn hK)
            clear hIn hK
            go_wp2_with fail
            refine bodyPost_ret (results_none rfl _ _ _) rfl ?_
            exact ⟨rfl, HY.out.1, (Kp.of_below HI.out.2.1 [blk]).trans HY.out.2⟩
  obtain ⟨bm, hbme⟩ : ∃ bm : Nat, b - m = bm := ⟨_, rfl⟩
  have hbm : IntKind.i64.wrap ((b : Int) - (m : Int)) = (bm : Int) := by rw [IntKind.wrap_i64]; omega
  have hbm1 : ¬ bm = 1 := by omega
  have hbm2 : ((bm : Int) == 1) = false := by rw [beq_eq_false_iff_ne]; omega
  clear hbme
  obtain ⟨mid, hmide⟩ : ∃ mid : Nat, (a + b) / 2 = mid := ⟨_, rfl⟩
  have hmid : ((a : Int) + (b : Int)) / 2 = (mid : Int) := by omega
  have hmb1 : a < mid ∧ mid < b ∧ 2 * mid ≤ a + b ∧ a + b ≤ 2 * mid + 1 := by omega
  clear hmide
  obtain ⟨nn, hnn⟩ : ∃ nn : Nat, mid + m = nn := ⟨_, rfl⟩
  have hwn : IntKind.i64.wrap ((mid : Int) + (m : Int)) = (nn : Int) := by rw [IntKind.wrap_i64]; omega
  obtain ⟨pp, hpp⟩ : ∃ pp : Nat, nn - 1 = pp := ⟨_, rfl⟩
  have hwp1 : IntKind.i64.wrap ((nn : Int) - 1) = (pp : Int) := by rw [IntKind.wrap_i64]; omega
  have HN := Lib.hid (And.intro hnn hpp)
  by_cases hgm : mid < m
  · have hgt : decide ((mid : Int) < (m : Int)) = true := by rw [decide_eq_true_eq]; omega
    obtain ⟨st, hst⟩ : ∃ st : Nat, nn - b = st := ⟨_, rfl⟩
    have hws : IntKind.i64.wrap ((nn : Int) - (b : Int)) = (st : Int) := by rw [IntKind.wrap_i64]; omega
    have hstb : st + b = mid + m ∧ a ≤ st ∧ st ≤ mid := by omega
    have hppb : pp + 1 = mid + m := by omega
    clear hst hpp
    go_enter Tryz.func127, Tryz.ntmps127
    go_wp2_with fail
    clear hV hd hma hbm
    go_loopw [18, 19] (fun x y wr => ∃ i j : Nat, st ≤ i ∧ i ≤ j ∧ j ≤ mid ∧ x = .int .i64 i ∧ y = .int .i64 j ∧ Inv wr ∧ Kp [blk] V wr) (fun x y _ => (intOf y).toNat - (intOf x).toNat)
    case atStart => exact ⟨st, mid, Nat.le_refl _, by omega, Nat.le_refl _, rfl, rfl, HI.out.1, Kp.refl _ _⟩
    case round =>
      obtain ⟨i, j, hmi, hij, hjb, rfl, rfl, hIn, hK⟩ := hrel
      by_cases hlt : i < j
      · have hdd : decide ((i : Int) < (j : Int)) = true := by rw [decide_eq_true_eq]; omega
        obtain ⟨hh, hhe⟩ : ∃ hh : Nat, (i + j) / 2 = hh := ⟨_, rfl⟩
        have hdiv : ((i : Int) + (j : Int)) / 2 = (hh : Int) := by omega
        have hwh : IntKind.i64.wrap ((hh : Int) + 1) = (hh : Int) + 1 := by rw [IntKind.wrap_i64]; omega
        have hhb : i ≤ hh ∧ hh < j := by omega
        clear hhe
        obtain ⟨pc, hpc⟩ : ∃ pc : Nat, mid + m - 1 - hh = pc := ⟨_, rfl⟩
        have hwp : IntKind.i64.wrap ((pp : Int) - (hh : Int)) = (pc : Int) := by rw [IntKind.wrap_i64]; omega
        have hpcb : pc < n := by omega
        have hhn : hh < n := by omega
        clear hpc
        have hB := HI.out.2.2.1.kp hK hdb'
        have c0 : wr.cell? ⟨d, 0, none⟩ = some (.func (.func 86) #[] #[lp]) := hB.cell 0
        have hl := HI.out.2.2.2.2.1 wr hIn pc hh (by omega) (by omega)
        have HL := Lib.hid hl
        have HK := Lib.hid hK
        clear hl hIn hK hB
        go_wp2_with fail
        refine HL.out.mono ?_
        rintro e w3 ⟨⟨bb, rfl⟩, hI3, b3⟩
        have HY := Lib.hid (And.intro hI3 (HK.out.old b3))
        clear hI3 b3 c0
        cases bb
        · go_wp2_with fail
          go_roundw
          case rel => exact ⟨hh + 1, j, by omega, by omega, hjb, by go_num, rfl, HY.out.1, HY.out.2⟩
          case measure => simp [intOf]; omega
        · go_wp2_with fail
          go_roundw
          case rel => exact ⟨i, hh, hmi, by omega, by omega, rfl, rfl, HY.out.1, HY.out.2⟩
          case measure => simp [intOf]; omega
      · have hdd : decide ((i : Int) < (j : Int)) = false := by rw [decide_eq_false_iff_not]; omega
        have H4 := Lib.hid (And.intro hIn hK)
        obtain ⟨en, hen⟩ : ∃ en : Nat, mid + m - i = en := ⟨_, rfl⟩
        have hwe : IntKind.i64.wrap ((nn : Int) - (i : Int)) = (en : Int) := by rw [IntKind.wrap_i64]; omega
        have hsb : i + en = mid + m := by omega
        clear hIn hK hen
        by_cases hc : i < m
        · have hcb : decide ((i : Int) < (m : Int)) = true := by rw [decide_eq_true_eq]; omega
          by_cases hc2 : m < en
          · have hcb2 : decide ((m : Int) < (en : Int)) = true := by rw [decide_eq_true_eq]; omega
            have c0 : _ = some (Value.func (.func 86) #[] #[lp]) := (HI.out.2.2.1.kp H4.out.2 hdb').cell 0
            have c1 : _ = some (Value.func (.func 113) #[] #[s1, s2]) := (HI.out.2.2.1.kp H4.out.2 hdb').cell 1
            have hcall := rotate_loose lp s1 s2 blk n Inv HI.out.2.2.2.2.2 HI.out.2.2.2.1 i m en (by omega) (by omega) (by omega) hn _ H4.out.1 (Nat.lt_of_lt_of_le hbV H4.out.2.size)
            have HCL := Lib.hid hcall
            clear hcall
            go_wp2_with fail
            refine HCL.out.mono ?_
            rintro e w5 ⟨rfl, hI5, k5⟩
            have H5 := Lib.hid (And.intro hI5 (H4.out.2.trans k5))
            clear hI5 k5 c0 c1 H4 HCL hcb hcb2
            have H4 := H5
            clear H5
            by_cases hc : a < i
            · have hcb : decide ((a : Int) < (i : Int)) = true := by rw [decide_eq_true_eq]; omega
              by_cases hc2 : i < mid
              · have hcb2 : decide ((i : Int) < (mid : Int)) = true := by rw [decide_eq_true_eq]; omega
                have c0 : _ = some (Value.func (.func 86) #[] #[lp]) := (HI.out.2.2.1.kp H4.out.2 hdb').cell 0
                have c1 : _ = some (Value.func (.func 113) #[] #[s1, s2]) := (HI.out.2.2.1.kp H4.out.2 hdb').cell 1
                have hcall := IH.out a i mid (by omega) (by omega) (by omega) (by omega) _ H4.out.1 (Nat.lt_of_lt_of_le hbV H4.out.2.size)
                have HCL := Lib.hid hcall
                clear hcall
                go_wp2_with fail
                refine HCL.out.mono ?_
                rintro e w5 ⟨rfl, hI5, k5⟩
                have H5 := Lib.hid (And.intro hI5 (H4.out.2.trans k5))
                clear hI5 k5 c0 c1 H4 HCL hcb hcb2
                have H4 := H5
                clear H5
                by_cases hc : mid < en
                · have hcb : decide ((mid : Int) < (en : Int)) = true := by rw [decide_eq_true_eq]; omega
                  by_cases hc2 : en < b
                  · have hcb2 : decide ((en : Int) < (b : Int)) = true := by rw [decide_eq_true_eq]; omega
                    have c0 : _ = some (Value.func (.func 86) #[] #[lp]) := (HI.out.2.2.1.kp H4.out.2 hdb').cell 0
                    have c1 : _ = some (Value.func (.func 113) #[] #[s1, s2]) := (HI.out.2.2.1.kp H4.out.2 hdb').cell 1
                    have hcall := IH.out mid en b (by omega) (by omega) (by omega) (by omega) _ H4.out.1 (Nat.lt_of_lt_of_le hbV H4.out.2.size)
                    have HCL := Lib.hid hcall
                    clear hcall
                    go_wp2_with fail
                    refine HCL.out.mono ?_
                    rintro e w5 ⟨rfl, hI5, k5⟩
                    have H5 := Lib.hid (And.intro hI5 (H4.out.2.trans k5))
                    clear hI5 k5 c0 c1 H4 HCL hcb hcb2
                    have H4 := H5
                    clear H5
                    go_wp2_with fail
                    go_end0
                    exact ⟨rfl, H4.out.1, (Kp.of_below HI.out.2.1 [blk]).trans H4.out.2⟩
                  · have hcb2 : decide ((en : Int) < (b : Int)) = false := by rw [decide_eq_false_iff_not]; omega
                    go_wp2_with fail
                    go_end0
                    exact ⟨rfl, H4.out.1, (Kp.of_below HI.out.2.1 [blk]).trans H4.out.2⟩
                · have hcb : decide ((mid : Int) < (en : Int)) = false := by rw [decide_eq_false_iff_not]; omega
                  go_wp2_with fail
                  go_end0
                  exact ⟨rfl, H4.out.1, (Kp.of_below HI.out.2.1 [blk]).trans H4.out.2⟩
              · have hcb2 : decide ((i : Int) < (mid : Int)) = false := by rw [decide_eq_false_iff_not]; omega
                by_cases hc : mid < en
                · have hcb : decide ((mid : Int) < (en : Int)) = true := by rw [decide_eq_true_eq]; omega
                  by_cases hc2 : en < b
                  · have hcb2 : decide ((en : Int) < (b : Int)) = true := by rw [decide_eq_true_eq]; omega
                    have c0 : _ = some (Value.func (.func 86) #[] #[lp]) := (HI.out.2.2.1.kp H4.out.2 hdb').cell 0
                    have c1 : _ = some (Value.func (.func 113) #[] #[s1, s2]) := (HI.out.2.2.1.kp H4.out.2 hdb').cell 1
                    have hcall := IH.out mid en b (by omega) (by omega) (by omega) (by omega) _ H4.out.1 (Nat.lt_of_lt_of_le hbV H4.out.2.size)
                    have HCL := Lib.hid hcall
                    clear hcall
                    go_wp2_with fail
                    refine HCL.out.mono ?_
                    rintro e w5 ⟨rfl, hI5, k5⟩
                    have H5 := Lib.hid (And.intro hI5 (H4.out.2.trans k5))
                    clear hI5 k5 c0 c1 H4 HCL hcb hcb2
                    have H4 := H5
                    clear H5
                    go_wp2_with fail
                    go_end0
                    exact ⟨rfl, H4.out.1, (Kp.of_below HI.out.2.1 [blk]).trans H4.out.2⟩
                  · have hcb2 : decide ((en : Int) < (b : Int)) = false := by rw [decide_eq_false_iff_not]; omega
                    go_wp2_with fail
                    go_end0
                    exact ⟨rfl, H4.out.1, (Kp.of_below HI.out.2.1 [blk]).trans H4.out.2⟩
                · have hcb : decide ((mid : Int) < (en : Int)) = false := by rw [decide_eq_false_iff_not]; omega
                  go_wp2_with fail
                  go_end0
                  exact ⟨rfl, H4.out.1, (Kp.of_below HI.out.2.1 [blk]).trans H4.out.2⟩
            · have hcb : decide ((a : Int) < (i : Int)) = false := by rw [decide_eq_false_iff_not]; omega
              by_cases hc : mid < en
              · have hcb : decide ((mid : Int) < (en : Int)) = true := by rw [decide_eq_true_eq]; omega
                by_cases hc2 : en < b
                · have hcb2 : decide ((en : Int) < (b : Int)) = true := by rw [decide_eq_true_eq]; omega
                  have c0 : _ = some (Value.func (.func 86) #[] #[lp]) := (HI.out.2.2.1.kp H4.out.2 hdb').cell 0
                  have c1 : _ = some (Value.func (.func 113) #[] #[s1, s2]) := (HI.out.2.2.1.kp H4.out.2 hdb').cell 1
                  have hcall := IH.out mid en b (by omega) (by omega) (by omega) (by omega) _ H4.out.1 (Nat.lt_of_lt_of_le hbV H4.out.2.size)
                  have HCL := Lib.hid hcall
                  clear hcall
                  go_wp2_with fail
                  refine HCL.out.mono ?_
                  rintro e w5 ⟨rfl, hI5, k5⟩
                  have H5 := Lib.hid (And.intro hI5 (H4.out.2.trans k5))
                  clear hI5 k5 c0 c1 H4 HCL hcb hcb2
                  have H4 := H5
                  clear H5
                  go_wp2_with fail
                  go_end0
                  exact ⟨rfl, H4.out.1, (Kp.of_below HI.out.2.1 [blk]).trans H4.out.2⟩
                · have hcb2 : decide ((en : Int) < (b : Int)) = false := by rw [decide_eq_false_iff_not]; omega
                  go_wp2_with fail
                  go_end0
                  exact ⟨rfl, H4.out.1, (Kp.of_below HI.out.2.1 [blk]).trans H4.out.2⟩
              · have hcb : decide ((mid : Int) < (en : Int)) = false := by rw [decide_eq_false_iff_not]; omega
                go_wp2_with fail
                go_end0
                exact ⟨rfl, H4.out.1, (Kp.of_below HI.out.2.1 [blk]).trans H4.out.2⟩
          · have hcb2 : decide ((m : Int) < (en : Int)) = false := by rw [decide_eq_false_iff_not]; omega
            by_cases hc : a < i
            · have hcb : decide ((a : Int) < (i : Int)) = true := by rw [decide_eq_true_eq]; omega
              by_cases hc2 : i < mid
              · have hcb2 : decide ((i : Int) < (mid : Int)) = true := by rw [decide_eq_true_eq]; omega
                have c0 : _ = some (Value.func (.func 86) #[] #[lp]) := (HI.out.2.2.1.kp H4.out.2 hdb').cell 0
                have c1 : _ = some (Value.func (.func 113) #[] #[s1, s2]) := (HI.out.2.2.1.kp H4.out.2 hdb').cell 1
                have hcall := IH.out a i mid (by omega) (by omega) (by omega) (by omega) _ H4.out.1 (Nat.lt_of_lt_of_le hbV H4.out.2.size)
                have HCL := Lib.hid hcall
                clear hcall
                go_wp2_with fail
                refine HCL.out.mono ?_
                rintro e w5 ⟨rfl, hI5, k5⟩
                have H5 := Lib.hid (And.intro hI5 (H4.out.2.trans k5))
                clear hI5 k5 c0 c1 H4 HCL hcb hcb2
                have H4 := H5
                clear H5
                by_cases hc : mid < en
                · have hcb : decide ((mid : Int) < (en : Int)) = true := by rw [decide_eq_true_eq]; omega
                  by_cases hc2 : en < b
                  · have hcb2 : decide ((en : Int) < (b : Int)) = true := by rw [decide_eq_true_eq]; omega
                    have c0 : _ = some (Value.func (.func 86) #[] #[lp]) := (HI.out.2.2.1.kp H4.out.2 hdb').cell 0
                    have c1 : _ = some (Value.func (.func 113) #[] #[s1, s2]) := (HI.out.2.2.1.kp H4.out.2 hdb').cell 1
                    have hcall := IH.out mid en b (by omega) (by omega) (by omega) (by omega) _ H4.out.1 (Nat.lt_of_lt_of_le hbV H4.out.2.size)
                    have HCL := Lib.hid hcall
                    clear hcall
                    go_wp2_with fail
                    refine HCL.out.mono ?_
                    rintro e w5 ⟨rfl, hI5, k5⟩
                    have H5 := Lib.hid (And.intro hI5 (H4.out.2.trans k5))
                    clear hI5 k5 c0 c1 H4 HCL hcb hcb2
                    have H4 := H5
                    clear H5
                    go_wp2_with fail
                    go_end0
                    exact ⟨rfl, H4.out.1, (Kp.of_below HI.out.2.1 [blk]).trans H4.out.2⟩
                  · have hcb2 : decide ((en : Int) < (b : Int)) = false := by rw [decide_eq_false_iff_not]; omega
                    go_wp2_with fail
                    go_end0
                    exact ⟨rfl, H4.out.1, (Kp.of_below HI.out.2.1 [blk]).trans H4.out.2⟩
                · have hcb : decide ((mid : Int) < (en : Int)) = false := by rw [decide_eq_false_iff_not]; omega
                  go_wp2_with fail
                  go_end0
                  exact ⟨rfl, H4.out.1, (Kp.of_below HI.out.2.1 [blk]).trans H4.out.2⟩
              · have hcb2 : decide ((i : Int) < (mid : Int)) = false := by rw [decide_eq_false_iff_not]; omega
                by_cases hc : mid < en
                · have hcb : decide ((mid : Int) < (en : Int)) = true := by rw [decide_eq_true_eq]; omega
                  by_cases hc2 : en < b
                  · have hcb2 : decide ((en : Int) < (b : Int)) = true := by rw [decide_eq_true_eq]; omega
                    have c0 : _ = some (Value.func (.func 86) #[] #[lp]) := (HI.out.2.2.1.kp H4.out.2 hdb').cell 0
                    have c1 : _ = some (Value.func (.func 113) #[] #[s1, s2]) := (HI.out.2.2.1.kp H4.out.2 hdb').cell 1
                    have hcall := IH.out mid en b (by omega) (by omega) (by omega) (by omega) _ H4.out.1 (Nat.lt_of_lt_of_le hbV H4.out.2.size)
                    have HCL := Lib.hid hcall
                    clear hcall
                    go_wp2_with fail
                    refine HCL.out.mono ?_
                    rintro e w5 ⟨rfl, hI5, k5⟩
                    have H5 := Lib.hid (And.intro hI5 (H4.out.2.trans k5))
                    clear hI5 k5 c0 c1 H4 HCL hcb hcb2
                    have H4 := H5
                    clear H5
                    go_wp2_with fail
                    go_end0
                    exact ⟨rfl, H4.out.1, (Kp.of_below HI.out.2.1 [blk]).trans H4.out.2⟩
                  · have hcb2 : decide ((en : Int) < (b : Int)) = false := by rw [decide_eq_false_iff_not]; omega
                    go_wp2_with fail
                    go_end0
                    exact ⟨rfl, H4.out.1, (Kp.of_below HI.out.2.1 [blk]).trans H4.out.2⟩
                · have hcb : decide ((mid : Int) < (en : Int)) = false := by rw [decide_eq_false_iff_not]; omega
                  go_wp2_with fail
                  go_end0
                  exact ⟨rfl, H4.out.1, (Kp.of_below HI.out.2.1 [blk]).trans H4.out.2⟩
            · have hcb : decide ((a : Int) < (i : Int)) = false := by rw [decide_eq_false_iff_not]; omega
              by_cases hc : mid < en
              · have hcb : decide ((mid : Int) < (en : Int)) = true := by rw [decide_eq_true_eq]; omega
                by_cases hc2 : en < b
                · have hcb2 : decide ((en : Int) < (b : Int)) = true := by rw [decide_eq_true_eq]; omega
                  have c0 : _ = some (Value.func (.func 86) #[] #[lp]) := (HI.out.2.2.1.kp H4.out.2 hdb').cell 0
                  have c1 : _ = some (Value.func (.func 113) #[] #[s1, s2]) := (HI.out.2.2.1.kp H4.out.2 hdb').cell 1
                  have hcall := IH.out mid en b (by omega) (by omega) (by omega) (by omega) _ H4.out.1 (Nat.lt_of_lt_of_le hbV H4.out.2.size)
                  have HCL := Lib.hid hcall
                  clear hcall
                  go_wp2_with fail
                  refine HCL.out.mono ?_
                  rintro e w5 ⟨rfl, hI5, k5⟩
                  have H5 := Lib.hid (And.intro hI5 (H4.out.2.trans k5))
                  clear hI5 k5 c0 c1 H4 HCL hcb hcb2
                  have H4 := H5
                  clear H5
                  go_wp2_with fail
                  go_end0
                  exact ⟨rfl, H4.out.1, (Kp.of_below HI.out.2.1 [blk]).trans H4.out.2⟩
                · have hcb2 : decide ((en : Int) < (b : Int)) = false := by rw [decide_eq_false_iff_not]; omega
                  go_wp2_with fail
                  go_end0
                  exact ⟨rfl, H4.out.1, (Kp.of_below HI.out.2.1 [blk]).trans H4.out.2⟩
              · have hcb : decide ((mid : Int) < (en : Int)) = false := by rw [decide_eq_false_iff_not]; omega
                go_wp2_with fail
                go_end0
                exact ⟨rfl, H4.out.1, (Kp.of_below HI.out.2.1 [blk]).trans H4.out.2⟩
        · have hcb : decide ((i : Int) < (m : Int)) = false := by rw [decide_eq_false_iff_not]; omega
          by_cases hc : a < i
          · have hcb : decide ((a : Int) < (i : Int)) = true := by rw [decide_eq_true_eq]; omega
            by_cases hc2 : i < mid
            · have hcb2 : decide ((i : Int) < (mid : Int)) = true := by rw [decide_eq_true_eq]; omega
              have c0 : _ = some (Value.func (.func 86) #[] #[lp]) := (HI.out.2.2.1.kp H4.out.2 hdb').cell 0
              have c1 : _ = some (Value.func (.func 113) #[] #[s1, s2]) := (HI.out.2.2.1.kp H4.out.2 hdb').cell 1
              have hcall := IH.out a i mid (by omega) (by omega) (by omega) (by omega) _ H4.out.1 (Nat.lt_of_lt_of_le hbV H4.out.2.size)
              have HCL := Lib.hid hcall
              clear hcall
              go_wp2_with fail
              refine HCL.out.mono ?_
              rintro e w5 ⟨rfl, hI5, k5⟩
              have H5 := Lib.hid (And.intro hI5 (H4.out.2.trans k5))
              clear hI5 k5 c0 c1 H4 HCL hcb hcb2
              have H4 := H5
              clear H5
              by_cases hc : mid < en
              · have hcb : decide ((mid : Int) < (en : Int)) = true := by rw [decide_eq_true_eq]; omega
                by_cases hc2 : en < b
                · have hcb2 : decide ((en : Int) < (b : Int)) = true := by rw [decide_eq_true_eq]; omega
                  have c0 : _ = some (Value.func (.func 86) #[] #[lp]) := (HI.out.2.2.1.kp H4.out.2 hdb').cell 0
                  have c1 : _ = some (Value.func (.func 113) #[] #[s1, s2]) := (HI.out.2.2.1.kp H4.out.2 hdb').cell 1
                  have hcall := IH.out mid en b (by omega) (by omega) (by omega) (by omega) _ H4.out.1 (Nat.lt_of_lt_of_le hbV H4.out.2.size)
                  have HCL := Lib.hid hcall
                  clear hcall
                  go_wp2_with fail
                  refine HCL.out.mono ?_
                  rintro e w5 ⟨rfl, hI5, k5⟩
                  have H5 := Lib.hid (And.intro hI5 (H4.out.2.trans k5))
                  clear hI5 k5 c0 c1 H4 HCL hcb hcb2
                  have H4 := H5
                  clear H5
                  go_wp2_with fail
                  go_end0
                  exact ⟨rfl, H4.out.1, (Kp.of_below HI.out.2.1 [blk]).trans H4.out.2⟩
                · have hcb2 : decide ((en : Int) < (b : Int)) = false := by rw [decide_eq_false_iff_not]; omega
                  go_wp2_with fail
                  go_end0
                  exact ⟨rfl, H4.out.1, (Kp.of_below HI.out.2.1 [blk]).trans H4.out.2⟩
              · have hcb : decide ((mid : Int) < (en : Int)) = false := by rw [decide_eq_false_iff_not]; omega
                go_wp2_with fail
                go_end0
                exact ⟨rfl, H4.out.1, (Kp.of_below HI.out.2.1 [blk]).trans H4.out.2⟩
            · have hcb2 : decide ((i : Int) < (mid : Int)) = false := by rw [decide_eq_false_iff_not]; omega
              by_cases hc : mid < en
              · have hcb : decide ((mid : Int) < (en : Int)) = true := by rw [decide_eq_true_eq]; omega
                by_cases hc2 : en < b
                · have hcb2 : decide ((en : Int) < (b : Int)) = true := by rw [decide_eq_true_eq]; omega
                  have c0 : _ = some (Value.func (.func 86) #[] #[lp]) := (HI.out.2.2.1.kp H4.out.2 hdb').cell 0
                  have c1 : _ = some (Value.func (.func 113) #[] #[s1, s2]) := (HI.out.2.2.1.kp H4.out.2 hdb').cell 1
                  have hcall := IH.out mid en b (by omega) (by omega) (by omega) (by omega) _ H4.out.1 (Nat.lt_of_lt_of_le hbV H4.out.2.size)
                  have HCL := Lib.hid hcall
                  clear hcall
                  go_wp2_with fail
                  refine HCL.out.mono ?_
                  rintro e w5 ⟨rfl, hI5, k5⟩
                  have H5 := Lib.hid (And.intro hI5 (H4.out.2.trans k5))
                  clear hI5 k5 c0 c1 H4 HCL hcb hcb2
                  have H4 := H5
                  clear H5
                  go_wp2_with fail
                  go_end0
                  exact ⟨rfl, H4.out.1, (Kp.of_below HI.out.2.1 [blk]).trans H4.out.2⟩
                · have hcb2 : decide ((en : Int) < (b : Int)) = false := by rw [decide_eq_false_iff_not]; omega
                  go_wp2_with fail
                  go_end0
                  exact ⟨rfl, H4.out.1, (Kp.of_below HI.out.2.1 [blk]).trans H4.out.2⟩
              · have hcb : decide ((mid : Int) < (en : Int)) = false := by rw [decide_eq_false_iff_not]; omega
                go_wp2_with fail
                go_end0
                exact ⟨rfl, H4.out.1, (Kp.of_below HI.out.2.1 [blk]).trans H4.out.2⟩
          · have hcb : decide ((a : Int) < (i : Int)) = false := by rw [decide_eq_false_iff_not]; omega
            by_cases hc : mid < en
            · have hcb : decide ((mid : Int) < (en : Int)) = true := by rw [decide_eq_true_eq]; omega
              by_cases hc2 : en < b
              · have hcb2 : decide ((en : Int) < (b : Int)) = true := by rw [decide_eq_true_eq]; omega
                have c0 : _ = some (Value.func (.func 86) #[] #[lp]) := (HI.out.2.2.1.kp H4.out.2 hdb').cell 0
                have c1 : _ = some (Value.func (.func 113) #[] #[s1, s2]) := (HI.out.2.2.1.kp H4.out.2 hdb').cell 1
                have hcall := IH.out mid en b (by omega) (by omega) (by omega) (by omega) _ H4.out.1 (Nat.lt_of_lt_of_le hbV H4.out.2.size)
                have HCL := Lib.hid hcall
                clear hcall
                go_wp2_with fail
                refine HCL.out.mono ?_
                rintro e w5 ⟨rfl, hI5, k5⟩
                have H5 := Lib.hid (And.intro hI5 (H4.out.2.trans k5))
                clear hI5 k5 c0 c1 H4 HCL hcb hcb2
                have H4 := H5
                clear H5
                go_wp2_with fail
                go_end0
                exact ⟨rfl, H4.out.1, (Kp.of_below HI.out.2.1 [blk]).trans H4.out.2⟩
              · have hcb2 : decide ((en : Int) < (b : Int)) = false := by rw [decide_eq_false_iff_not]; omega
                go_wp2_with fail
                go_end0
                exact ⟨rfl, H4.out.1, (Kp.of_below HI.out.2.1 [blk]).trans H4.out.2⟩
            · have hcb : decide ((mid : Int) < (en : Int)) = false := by rw [decide_eq_false_iff_not]; omega
              go_wp2_with fail
              go_end0
              exact ⟨rfl, H4.out.1, (Kp.of_below HI.out.2.1 [blk]).trans H4.out.2⟩
  · have hgt : decide ((mid : Int) < (m : Int)) = false := by rw [decide_eq_false_iff_not]; omega
    have hppb : pp + 1 = mid + m := by omega
    clear hpp
    go_enter Tryz.func127, Tryz.ntmps127
    go_wp2_with fail
    clear hV hd hma hbm
    go_loopw [18, 19] (fun x y wr => ∃ i j : Nat, a ≤ i ∧ i ≤ j ∧ j ≤ m ∧ x = .int .i64 i ∧ y = .int .i64 j ∧ Inv wr ∧ Kp [blk] V wr) (fun x y _ => (intOf y).toNat - (intOf x).toNat)
    case atStart => exact ⟨a, m, Nat.le_refl _, by omega, Nat.le_refl _, rfl, rfl, HI.out.1, Kp.refl _ _⟩
    case round =>
      obtain ⟨i, j, hmi, hij, hjb, rfl, rfl, hIn, hK⟩ := hrel
      by_cases hlt : i < j
      · have hdd : decide ((i : Int) < (j : Int)) = true := by rw [decide_eq_true_eq]; omega
        obtain ⟨hh, hhe⟩ : ∃ hh : Nat, (i + j) / 2 = hh := ⟨_, rfl⟩
        have hdiv : ((i : Int) + (j : Int)) / 2 = (hh : Int) := by omega
        have hwh : IntKind.i64.wrap ((hh : Int) + 1) = (hh : Int) + 1 := by rw [IntKind.wrap_i64]; omega
        have hhb : i ≤ hh ∧ hh < j := by omega
        clear hhe
        obtain ⟨pc, hpc⟩ : ∃ pc : Nat, mid + m - 1 - hh = pc := ⟨_, rfl⟩
        have hwp : IntKind.i64.wrap ((pp : Int) - (hh : Int)) = (pc : Int) := by rw [IntKind.wrap_i64]; omega
        have hpcb : pc < n := by omega
        have hhn : hh < n := by omega
        clear hpc
        have hB := HI.out.2.2.1.kp hK hdb'
        have c0 : wr.cell? ⟨d, 0, none⟩ = some (.func (.func 86) #[] #[lp]) := hB.cell 0
        have hl := HI.out.2.2.2.2.1 wr hIn pc hh (by omega) (by omega)
        have HL := Lib.hid hl
        have HK := Lib.hid hK
        clear hl hIn hK hB
        go_wp2_with fail
        refine HL.out.mono ?_
        rintro e w3 ⟨⟨bb, rfl⟩, hI3, b3⟩
        have HY := Lib.hid (And.intro hI3 (HK.out.old b3))
        clear hI3 b3 c0
        cases bb
        · go_wp2_with fail
          go_roundw
          case rel => exact ⟨hh + 1, j, by omega, by omega, hjb, by go_num, rfl, HY.out.1, HY.out.2⟩
          case measure => simp [intOf]; omega
        · go_wp2_with fail
          go_roundw
          case rel => exact ⟨i, hh, hmi, by omega, by omega, rfl, rfl, HY.out.1, HY.out.2⟩
          case measure => simp [intOf]; omega
      · have hdd : decide ((i : Int) < (j : Int)) = false := by rw [decide_eq_false_iff_not]; omega
        have H4 := Lib.hid (And.intro hIn hK)
        obtain ⟨en, hen⟩ : ∃ en : Nat, mid + m - i = en := ⟨_, rfl⟩
        have hwe : IntKind.i64.wrap ((nn : Int) - (i : Int)) = (en : Int) := by rw [IntKind.wrap_i64]; omega
        have hsb : i + en = mid + m := by omega
        clear hIn hK hen
        by_cases hc : i < m
        · have hcb : decide ((i : Int) < (m : Int)) = true := by rw [decide_eq_true_eq]; omega
          by_cases hc2 : m < en
          · have hcb2 : decide ((m : Int) < (en : Int)) = true := by rw [decide_eq_true_eq]; omega
            have c0 : _ = some (Value.func (.func 86) #[] #[lp]) := (HI.out.2.2.1.kp H4.out.2 hdb').cell 0
            have c1 : _ = some (Value.func (.func 113) #[] #[s1, s2]) := (HI.out.2.2.1.kp H4.out.2 hdb').cell 1
            have hcall := rotate_loose lp s1 s2 blk n Inv HI.out.2.2.2.2.2 HI.out.2.2.2.1 i m en (by omega) (by omega) (by omega) hn _ H4.out.1 (Nat.lt_of_lt_of_le hbV H4.out.2.size)
            have HCL := Lib.hid hcall
            clear hcall
            go_wp2_with fail
            refine HCL.out.mono ?_
            rintro e w5 ⟨rfl, hI5, k5⟩
            have H5 := Lib.hid (And.intro hI5 (H4.out.2.trans k5))
            clear hI5 k5 c0 c1 H4 HCL hcb hcb2
            have H4 := H5
            clear H5
            by_cases hc : a < i
            · have hcb : decide ((a : Int) < (i : Int)) = true := by rw [decide_eq_true_eq]; omega
              by_cases hc2 : i < mid
              · have hcb2 : decide ((i : Int) < (mid : Int)) = true := by rw [decide_eq_true_eq]; omega
                have c0 : _ = some (Value.func (.func 86) #[] #[lp]) := (HI.out.2.2.1.kp H4.out.2 hdb').cell 0
                have c1 : _ = some (Value.func (.func 113) #[] #[s1, s2]) := (HI.out.2.2.1.kp H4.out.2 hdb').cell 1
                have hcall := IH.out a i mid (by omega) (by omega) (by omega) (by omega) _ H4.out.1 (Nat.lt_of_lt_of_le hbV H4.out.2.size)
                have HCL := Lib.hid hcall
                clear hcall
                go_wp2_with fail
                refine HCL.out.mono ?_
                rintro e w5 ⟨rfl, hI5, k5⟩
                have H5 := Lib.hid (And.intro hI5 (H4.out.2.trans k5))
                clear hI5 k5 c0 c1 H4 HCL hcb hcb2
                have H4 := H5
                clear H5
                by_cases hc : mid < en
                · have hcb : decide ((mid : Int) < (en : Int)) = true := by rw [decide_eq_true_eq]; omega
                  by_cases hc2 : en < b
                  · have hcb2 : decide ((en : Int) < (b : Int)) = true := by rw [decide_eq_true_eq]; omega
                    have c0 : _ = some (Value.func (.func 86) #[] #[lp]) := (HI.out.2.2.1.kp H4.out.2 hdb').cell 0
                    have c1 : _ = some (Value.func (.func 113) #[] #[s1, s2]) := (HI.out.2.2.1.kp H4.out.2 hdb').cell 1
                    have hcall := IH.out mid en b (by omega) (by omega) (by omega) (by omega) _ H4.out.1 (Nat.lt_of_lt_of_le hbV H4.out.2.size)
                    have HCL := Lib.hid hcall
                    clear hcall
                    go_wp2_with fail
                    refine HCL.out.mono ?_
                    rintro e w5 ⟨rfl, hI5, k5⟩
                    have H5 := Lib.hid (And.intro hI5 (H4.out.2.trans k5))
                    clear hI5 k5 c0 c1 H4 HCL hcb hcb2
                    have H4 := H5
                    clear H5
                    go_wp2_with fail
                    go_end0
                    exact ⟨rfl, H4.out.1, (Kp.of_below HI.out.2.1 [blk]).trans H4.out.2⟩
                  · have hcb2 : decide ((en : Int) < (b : Int)) = false := by rw [decide_eq_false_iff_not]; omega
                    go_wp2_with fail
                    go_end0
                    exact ⟨rfl, H4.out.1, (Kp.of_below HI.out.2.1 [blk]).trans H4.out.2⟩
                · have hcb : decide ((mid : Int) < (en : Int)) = false := by rw [decide_eq_false_iff_not]; omega
                  go_wp2_with fail
                  go_end0
                  exact ⟨rfl, H4.out.1, (Kp.of_below HI.out.2.1 [blk]).trans H4.out.2⟩
              · have hcb2 : decide ((i : Int) < (mid : Int)) = false := by rw [decide_eq_false_iff_not]; omega
                by_cases hc : mid < en
                · have hcb : decide ((mid : Int) < (en : Int)) = true := by rw [decide_eq_true_eq]; omega
                  by_cases hc2 : en < b
                  · have hcb2 : decide ((en : Int) < (b : Int)) = true := by rw [decide_eq_true_eq]; omega
                    have c0 : _ = some (Value.func (.func 86) #[] #[lp]) := (HI.out.2.2.1.kp H4.out.2 hdb').cell 0
                    have c1 : _ = some (Value.func (.func 113) #[] #[s1, s2]) := (HI.out.2.2.1.kp H4.out.2 hdb').cell 1
                    have hcall := IH.out mid en b (by omega) (by omega) (by omega) (by omega) _ H4.out.1 (Nat.lt_of_lt_of_le hbV H4.out.2.size)
                    have HCL := Lib.hid hcall
                    clear hcall
                    go_wp2_with fail
                    refine HCL.out.mono ?_
                    rintro e w5 ⟨rfl, hI5, k5⟩
                    have H5 := Lib.hid (And.intro hI5 (H4.out.2.trans k5))
                    clear hI5 k5 c0 c1 H4 HCL hcb hcb2
                    have H4 := H5
                    clear H5
                    go_wp2_with fail
                    go_end0
                    exact ⟨rfl, H4.out.1, (Kp.of_below HI.out.2.1 [blk]).trans H4.out.2⟩
                  · have hcb2 : decide ((en : Int) < (b : Int)) = false := by rw [decide_eq_false_iff_not]; omega
                    go_wp2_with fail
                    go_end0
                    exact ⟨rfl, H4.out.1, (Kp.of_below HI.out.2.1 [blk]).trans H4.out.2⟩
                · have hcb : decide ((mid : Int) < (en : Int)) = false := by rw [decide_eq_false_iff_not]; omega
                  go_wp2_with fail
                  go_end0
                  exact ⟨rfl, H4.out.1, (Kp.of_below HI.out.2.1 [blk]).trans H4.out.2⟩
            · have hcb : decide ((a : Int) < (i : Int)) = false := by rw [decide_eq_false_iff_not]; omega
              by_cases hc : mid < en
              · have hcb : decide ((mid : Int) < (en : Int)) = true := by rw [decide_eq_true_eq]; omega
                by_cases hc2 : en < b
                · have hcb2 : decide ((en : Int) < (b : Int)) = true := by rw [decide_eq_true_eq]; omega
                  have c0 : _ = some (Value.func (.func 86) #[] #[lp]) := (HI.out.2.2.1.kp H4.out.2 hdb').cell 0
                  have c1 : _ = some (Value.func (.func 113) #[] #[s1, s2]) := (HI.out.2.2.1.kp H4.out.2 hdb').cell 1
                  have hcall := IH.out mid en b (by omega) (by omega) (by omega) (by omega) _ H4.out.1 (Nat.lt_of_lt_of_le hbV H4.out.2.size)
                  have HCL := Lib.hid hcall
                  clear hcall
                  go_wp2_with fail
                  refine HCL.out.mono ?_
                  rintro e w5 ⟨rfl, hI5, k5⟩
                  have H5 := Lib.hid (And.intro hI5 (H4.out.2.trans k5))
                  clear hI5 k5 c0 c1 H4 HCL hcb hcb2
                  have H4 := H5
                  clear H5
                  go_wp2_with fail
                  go_end0
                  exact ⟨rfl, H4.out.1, (Kp.of_below HI.out.2.1 [blk]).trans H4.out.2⟩
                · have hcb2 : decide ((en : Int) < (b : Int)) = false := by rw [decide_eq_false_iff_not]; omega
                  go_wp2_with fail
                  go_end0
                  exact ⟨rfl, H4.out.1, (Kp.of_below HI.out.2.1 [blk]).trans H4.out.2⟩
              · have hcb : decide ((mid : Int) < (en : Int)) = false := by rw [decide_eq_false_iff_not]; omega
                go_wp2_with fail
                go_end0
                exact ⟨rfl, H4.out.1, (Kp.of_below HI.out.2.1 [blk]).trans H4.out.2⟩
          · have hcb2 : decide ((m : Int) < (en : Int)) = false := by rw [decide_eq_false_iff_not]; omega
            by_cases hc : a < i
            · have hcb : decide ((a : Int) < (i : Int)) = true := by rw [decide_eq_true_eq]; omega
              by_cases hc2 : i < mid
              · have hcb2 : decide ((i : Int) < (mid : Int)) = true := by rw [decide_eq_true_eq]; omega
                have c0 : _ = some (Value.func (.func 86) #[] #[lp]) := (HI.out.2.2.1.kp H4.out.2 hdb').cell 0
                have c1 : _ = some (Value.func (.func 113) #[] #[s1, s2]) := (HI.out.2.2.1.kp H4.out.2 hdb').cell 1
                have hcall := IH.out a i mid (by omega) (by omega) (by omega) (by omega) _ H4.out.1 (Nat.lt_of_lt_of_le hbV H4.out.2.size)
                have HCL := Lib.hid hcall
                clear hcall
                go_wp2_with fail
                refine HCL.out.mono ?_
                rintro e w5 ⟨rfl, hI5, k5⟩
                have H5 := Lib.hid (And.intro hI5 (H4.out.2.trans k5))
                clear hI5 k5 c0 c1 H4 HCL hcb hcb2
                have H4 := H5
                clear H5
                by_cases hc : mid < en
                · have hcb : decide ((mid : Int) < (en : Int)) = true := by rw [decide_eq_true_eq]; omega
                  by_cases hc2 : en < b
                  · have hcb2 : decide ((en : Int) < (b : Int)) = true := by rw [decide_eq_true_eq]; omega
                    have c0 : _ = some (Value.func (.func 86) #[] #[lp]) := (HI.out.2.2.1.kp H4.out.2 hdb').cell 0
                    have c1 : _ = some (Value.func (.func 113) #[] #[s1, s2]) := (HI.out.2.2.1.kp H4.out.2 hdb').cell 1
                    have hcall := IH.out mid en b (by omega) (by omega) (by omega) (by omega) _ H4.out.1 (Nat.lt_of_lt_of_le hbV H4.out.2.size)
                    have HCL := Lib.hid hcall
                    clear hcall
                    go_wp2_with fail
                    refine HCL.out.mono ?_
                    rintro e w5 ⟨rfl, hI5, k5⟩
                    have H5 := Lib.hid (And.intro hI5 (H4.out.2.trans k5))
                    clear hI5 k5 c0 c1 H4 HCL hcb hcb2
                    have H4 := H5
                    clear H5
                    go_wp2_with fail
                    go_end0
                    exact ⟨rfl, H4.out.1, (Kp.of_below HI.out.2.1 [blk]).trans H4.out.2⟩
                  · have hcb2 : decide ((en : Int) < (b : Int)) = false := by rw [decide_eq_false_iff_not]; omega
                    go_wp2_with fail
                    go_end0
                    exact ⟨rfl, H4.out.1, (Kp.of_below HI.out.2.1 [blk]).trans H4.out.2⟩
                · have hcb : decide ((mid : Int) < (en : Int)) = false := by rw [decide_eq_false_iff_not]; omega
                  go_wp2_with fail
                  go_end0
                  exact ⟨rfl, H4.out.1, (Kp.of_below HI.out.2.1 [blk]).trans H4.out.2⟩
              · have hcb2 : decide ((i : Int) < (mid : Int)) = false := by rw [decide_eq_false_iff_not]; omega
                by_cases hc : mid < en
                · have hcb : decide ((mid : Int) < (en : Int)) = true := by rw [decide_eq_true_eq]; omega
                  by_cases hc2 : en < b
                  · have hcb2 : decide ((en : Int) < (b : Int)) = true := by rw [decide_eq_true_eq]; omega
                    have c0 : _ = some (Value.func (.func 86) #[] #[lp]) := (HI.out.2.2.1.kp H4.out.2 hdb').cell 0
                    have c1 : _ = some (Value.func (.func 113) #[] #[s1, s2]) := (HI.out.2.2.1.kp H4.out.2 hdb').cell 1
                    have hcall := IH.out mid en b (by omega) (by omega) (by omega) (by omega) _ H4.out.1 (Nat.lt_of_lt_of_le hbV H4.out.2.size)
                    have HCL := Lib.hid hcall
                    clear hcall
                    go_wp2_with fail
                    refine HCL.out.mono ?_
                    rintro e w5 ⟨rfl, hI5, k5⟩
                    have H5 := Lib.hid (And.intro hI5 (H4.out.2.trans k5))
                    clear hI5 k5 c0 c1 H4 HCL hcb hcb2
                    have H4 := H5
                    clear H5
                    go_wp2_with fail
                    go_end0
                    exact ⟨rfl, H4.out.1, (Kp.of_below HI.out.2.1 [blk]).trans H4.out.2⟩
                  · have hcb2 : decide ((en : Int) < (b : Int)) = false := by rw [decide_eq_false_iff_not]; omega
                    go_wp2_with fail
                    go_end0
                    exact ⟨rfl, H4.out.1, (Kp.of_below HI.out.2.1 [blk]).trans H4.out.2⟩
                · have hcb : decide ((mid : Int) < (en : Int)) = false := by rw [decide_eq_false_iff_not]; omega
                  go_wp2_with fail
                  go_end0
                  exact ⟨rfl, H4.out.1, (Kp.of_below HI.out.2.1 [blk]).trans H4.out.2⟩
            · have hcb : decide ((a : Int) < (i : Int)) = false := by rw [decide_eq_false_iff_not]; omega
              by_cases hc : mid < en
              · have hcb : decide ((mid : Int) < (en : Int)) = true := by rw [decide_eq_true_eq]; omega
                by_cases hc2 : en < b
                · have hcb2 : decide ((en : Int) < (b : Int)) = true := by rw [decide_eq_true_eq]; omega
                  have c0 : _ = some (Value.func (.func 86) #[] #[lp]) := (HI.out.2.2.1.kp H4.out.2 hdb').cell 0
                  have c1 : _ = some (Value.func (.func 113) #[] #[s1, s2]) := (HI.out.2.2.1.kp H4.out.2 hdb').cell 1
                  have hcall := IH.out mid en b (by omega) (by omega) (by omega) (by omega) _ H4.out.1 (Nat.lt_of_lt_of_le hbV H4.out.2.size)
                  have HCL := Lib.hid hcall
                  clear hcall
                  go_wp2_with fail
                  refine HCL.out.mono ?_
                  rintro e w5 ⟨rfl, hI5, k5⟩
                  have H5 := Lib.hid (And.intro hI5 (H4.out.2.trans k5))
                  clear hI5 k5 c0 c1 H4 HCL hcb hcb2
                  have H4 := H5
                  clear H5
                  go_wp2_with fail
                  go_end0
                  exact ⟨rfl, H4.out.1, (Kp.of_below HI.out.2.1 [blk]).trans H4.out.2⟩
                · have hcb2 : decide ((en : Int) < (b : Int)) = false := by rw [decide_eq_false_iff_not]; omega
                  go_wp2_with fail
                  go_end0
                  exact ⟨rfl, H4.out.1, (Kp.of_below HI.out.2.1 [blk]).trans H4.out.2⟩
              · have hcb : decide ((mid : Int) < (en : Int)) = false := by rw [decide_eq_false_iff_not]; omega
                go_wp2_with fail
                go_end0
                exact ⟨rfl, H4.out.1, (Kp.of_below HI.out.2.1 [blk]).trans H4.out.2⟩
        · have hcb : decide ((i : Int) < (m : Int)) = false := by rw [decide_eq_false_iff_not]; omega
          by_cases hc : a < i
          · have hcb : decide ((a : Int) < (i : Int)) = true := by rw [decide_eq_true_eq]; omega
            by_cases hc2 : i < mid
            · have hcb2 : decide ((i : Int) < (mid : Int)) = true := by rw [decide_eq_true_eq]; omega
              have c0 : _ = some (Value.func (.func 86) #[] #[lp]) := (HI.out.2.2.1.kp H4.out.2 hdb').cell 0
              have c1 : _ = some (Value.func (.func 113) #[] #[s1, s2]) := (HI.out.2.2.1.kp H4.out.2 hdb').cell 1
              have hcall := IH.out a i mid (by omega) (by omega) (by omega) (by omega) _ H4.out.1 (Nat.lt_of_lt_of_le hbV H4.out.2.size)
              have HCL := Lib.hid hcall
              clear hcall
              go_wp2_with fail
              refine HCL.out.mono ?_
              rintro e w5 ⟨rfl, hI5, k5⟩
              have H5 := Lib.hid (And.intro hI5 (H4.out.2.trans k5))
              clear hI5 k5 c0 c1 H4 HCL hcb hcb2
              have H4 := H5
              clear H5
              by_cases hc : mid < en
              · have hcb : decide ((mid : Int) < (en : Int)) = true := by rw [decide_eq_true_eq]; omega
                by_cases hc2 : en < b
                · have hcb2 : decide ((en : Int) < (b : Int)) = true := by rw [decide_eq_true_eq]; omega
                  have c0 : _ = some (Value.func (.func 86) #[] #[lp]) := (HI.out.2.2.1.kp H4.out.2 hdb').cell 0
                  have c1 : _ = some (Value.func (.func 113) #[] #[s1, s2]) := (HI.out.2.2.1.kp H4.out.2 hdb').cell 1
                  have hcall := IH.out mid en b (by omega) (by omega) (by omega) (by omega) _ H4.out.1 (Nat.lt_of_lt_of_le hbV H4.out.2.size)
                  have HCL := Lib.hid hcall
                  clear hcall
                  go_wp2_with fail
                  refine HCL.out.mono ?_
                  rintro e w5 ⟨rfl, hI5, k5⟩
                  have H5 := Lib.hid (And.intro hI5 (H4.out.2.trans k5))
                  clear hI5 k5 c0 c1 H4 HCL hcb hcb2
                  have H4 := H5
                  clear H5
                  go_wp2_with fail
                  go_end0
                  exact ⟨rfl, H4.out.1, (Kp.of_below HI.out.2.1 [blk]).trans H4.out.2⟩
                · have hcb2 : decide ((en : Int) < (b : Int)) = false := by rw [decide_eq_false_iff_not]; omega
                  go_wp2_with fail
                  go_end0
                  exact ⟨rfl, H4.out.1, (Kp.of_below HI.out.2.1 [blk]).trans H4.out.2⟩
              · have hcb : decide ((mid : Int) < (en : Int)) = false := by rw [decide_eq_false_iff_not]; omega
                go_wp2_with fail
                go_end0
                exact ⟨rfl, H4.out.1, (Kp.of_below HI.out.2.1 [blk]).trans H4.out.2⟩
            · have hcb2 : decide ((i : Int) < (mid : Int)) = false := by rw [decide_eq_false_iff_not]; omega
              by_cases hc : mid < en
              · have hcb : decide ((mid : Int) < (en : Int)) = true := by rw [decide_eq_true_eq]; omega
                by_cases hc2 : en < b
                · have hcb2 : decide ((en : Int) < (b : Int)) = true := by rw [decide_eq_true_eq]; omega
                  have c0 : _ = some (Value.func (.func 86) #[] #[lp]) := (HI.out.2.2.1.kp H4.out.2 hdb').cell 0
                  have c1 : _ = some (Value.func (.func 113) #[] #[s1, s2]) := (HI.out.2.2.1.kp H4.out.2 hdb').cell 1
                  have hcall := IH.out mid en b (by omega) (by omega) (by omega) (by omega) _ H4.out.1 (Nat.lt_of_lt_of_le hbV H4.out.2.size)
                  have HCL := Lib.hid hcall
                  clear hcall
                  go_wp2_with fail
                  refine HCL.out.mono ?_
                  rintro e w5 ⟨rfl, hI5, k5⟩
                  have H5 := Lib.hid (And.intro hI5 (H4.out.2.trans k5))
                  clear hI5 k5 c0 c1 H4 HCL hcb hcb2
                  have H4 := H5
                  clear H5
                  go_wp2_with fail
                  go_end0
                  exact ⟨rfl, H4.out.1, (Kp.of_below HI.out.2.1 [blk]).trans H4.out.2⟩
                · have hcb2 : decide ((en : Int) < (b : Int)) = false := by rw [decide_eq_false_iff_not]; omega
                  go_wp2_with fail
                  go_end0
                  exact ⟨rfl, H4.out.1, (Kp.of_below HI.out.2.1 [blk]).trans H4.out.2⟩
              · have hcb : decide ((mid : Int) < (en : Int)) = false := by rw [decide_eq_false_iff_not]; omega
                go_wp2_with fail
                go_end0
                exact ⟨rfl, H4.out.1, (Kp.of_below HI.out.2.1 [blk]).trans H4.out.2⟩
          · have hcb : decide ((a : Int) < (i : Int)) = false := by rw [decide_eq_false_iff_not]; omega
            by_cases hc : mid < en
            · have hcb : decide ((mid : Int) < (en : Int)) = true := by rw [decide_eq_true_eq]; omega
              by_cases hc2 : en < b
              · have hcb2 : decide ((en : Int) < (b : Int)) = true := by rw [decide_eq_true_eq]; omega
                have c0 : _ = some (Value.func (.func 86) #[] #[lp]) := (HI.out.2.2.1.kp H4.out.2 hdb').cell 0
                have c1 : _ = some (Value.func (.func 113) #[] #[s1, s2]) := (HI.out.2.2.1.kp H4.out.2 hdb').cell 1
                have hcall := IH.out mid en b (by omega) (by omega) (by omega) (by omega) _ H4.out.1 (Nat.lt_of_lt_of_le hbV H4.out.2.size)
                have HCL := Lib.hid hcall
                clear hcall
                go_wp2_with fail
                refine HCL.out.mono ?_
                rintro e w5 ⟨rfl, hI5, k5⟩
                have H5 := Lib.hid (And.intro hI5 (H4.out.2.trans k5))
                clear hI5 k5 c0 c1 H4 HCL hcb hcb2
                have H4 := H5
                clear H5
                go_wp2_with fail
                go_end0
                exact ⟨rfl, H4.out.1, (Kp.of_below HI.out.2.1 [blk]).trans H4.out.2⟩
              · have hcb2 : decide ((en : Int) < (b : Int)) = false := by rw [decide_eq_false_iff_not]; omega
                go_wp2_with fail
                go_end0
                exact ⟨rfl, H4.out.1, (Kp.of_below HI.out.2.1 [blk]).trans H4.out.2⟩
            · have hcb : decide ((mid : Int) < (en : Int)) = false := by rw [decide_eq_false_iff_not]; omega
              go_wp2_with fail
              go_end0
              exact ⟨rfl, H4.out.1, (Kp.of_below HI.out.2.1 [blk]).trans H4.out.2⟩
end Go.Proofs.YtlafdmmjbkdkaaaGreatDoor
