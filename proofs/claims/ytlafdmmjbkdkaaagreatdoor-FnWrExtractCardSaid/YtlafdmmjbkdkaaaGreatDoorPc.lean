/-
  sort.stable_func, whatever order it sorts by: what it leaves of the row. Conditions: as the contract says.
-/
import Derived.Test.YtlafdmmjbkdkaaaGreatDoorPb
namespace Go.Proofs.YtlafdmmjbkdkaaaGreatDoor
open Go.RowKit

set_option maxRecDepth 100000 in
set_option maxHeartbeats 4000000 in
theorem stable_loose (lp s1 s2 : Value) (blk n : Nat) (Inv : World → Prop) (hI : InvOk Inv) (hS : SwapOk s1 s2 blk n Inv) (hL : LessOk lp n Inv) (hn : n ≤ 1000) (w : World) (h : Inv w) (hblk : blk < w.heap.size) :
    Calls Tryz.prog 104 #[.agg (dataV lp s1 s2), .int .i64 n] w fun e w' => e = .returned (.tuple #[]) ∧ Inv w' ∧ Kp [blk] w w' := by
  obtain ⟨d, hd⟩ : ∃ d, w.heap.size = d := ⟨_, rfl⟩
  obtain ⟨V, hV⟩ : ∃ V, w.alloc (.cells (dataV lp s1 s2) 180) = V := ⟨_, rfl⟩
  have bV : Below w.heap.size w V := by rw [← hV]; exact Old.alloc (Below.refl _ _) _
  have BV : Blk V d 180 (dataV lp s1 s2) := by rw [← hV, ← hd]; exact Blk.new _ _ _
  have hdb : d ≠ blk := by omega
  have hdb' : d ∉ [blk] := by simpa using hdb
  have hbV : blk < V.heap.size := Nat.lt_of_lt_of_le hblk bV.size
  have HI := Lib.hid (And.intro (hI w V h bV) (And.intro bV BV))
  clear h bV BV
  go_enter Tryz.func104, Tryz.ntmps104
  go_wp2_with fail
  clear hV hd
  go_loopw [5, 6] (fun x y wr => ∃ a : Nat, a ≤ n ∧ x = .int .i64 a ∧ y = .int .i64 ((a + 20 : Nat) : Int) ∧ Inv wr ∧ Kp [blk] V wr) (fun x _ _ => n - (intOf x).toNat)
  case atStart => exact ⟨0, Nat.zero_le _, rfl, rfl, HI.out.1, Kp.refl _ _⟩
  case round =>
    obtain ⟨a, han, rfl, rfl, hIn, hK⟩ := hrel
    obtain ⟨b, hb⟩ : ∃ b, a + 20 = b := ⟨_, rfl⟩
    rw [hb]
    have hwb : IntKind.i64.wrap ((b : Int) + 20) = (b : Int) + 20 := by rw [IntKind.wrap_i64]; omega
    have HB := Lib.hid hb
    clear hb
    by_cases hlt : b ≤ n
    · have hdd : decide ((b : Int) ≤ (n : Int)) = true := by rw [decide_eq_true_eq]; omega
      have hab : a ≤ b := by have := HB.out; omega
      have c0 : wr.cell? ⟨d, 0, none⟩ = some (Value.func (.func 86) #[] #[lp]) := (HI.out.2.2.kp hK hdb').cell 0
      have c1 : wr.cell? ⟨d, 1, none⟩ = some (Value.func (.func 113) #[] #[s1, s2]) := (HI.out.2.2.kp hK hdb').cell 1
      have hcall := insertionSort_loose lp s1 s2 blk n Inv hI hS hL a b (by omega) (by omega) hn wr hIn (Nat.lt_of_lt_of_le hbV hK.size)
      have HCL := Lib.hid hcall
      have HK := Lib.hid hK
      clear hcall hIn hK
      go_wp2_with fail
      refine HCL.out.mono ?_
      rintro e w5 ⟨rfl, hI5, k5⟩
      have HY := Lib.hid (And.intro hI5 (HK.out.trans k5))
      clear hI5 k5 c0 c1
      go_wp2_with fail
      go_roundw
      case rel => exact ⟨b, hlt, rfl, by go_num, HY.out.1, HY.out.2⟩
      case measure => have := HB.out; simp [intOf]; omega
    · have hdd : decide ((b : Int) ≤ (n : Int)) = false := by rw [decide_eq_false_iff_not]; omega
      have c0 : wr.cell? ⟨d, 0, none⟩ = some (Value.func (.func 86) #[] #[lp]) := (HI.out.2.2.kp hK hdb').cell 0
      have c1 : wr.cell? ⟨d, 1, none⟩ = some (Value.func (.func 113) #[] #[s1, s2]) := (HI.out.2.2.kp hK hdb').cell 1
      have hcall := insertionSort_loose lp s1 s2 blk n Inv hI hS hL a n (by omega) (by omega) hn wr hIn (Nat.lt_of_lt_of_le hbV hK.size)
      have HCL := Lib.hid hcall
      have HK := Lib.hid hK
      clear hcall hIn hK
      go_wp2_with fail
      refine HCL.out.mono ?_
      rintro e w5 ⟨rfl, hI5, k5⟩
      have HY := Lib.hid (And.intro hI5 (HK.out.trans k5))
      clear hI5 k5 c0 c1
      go_wp2_with fail
      clear HCL HK
      go_loopw [4] (fun x wr => ∃ bs : Nat, 20 ≤ bs ∧ bs ≤ 2020 ∧ x = .int .i64 bs ∧ Inv wr ∧ Kp [blk] V wr) (fun x _ => n - (intOf x).toNat)
      case atStart => exact ⟨20, by omega, by omega, rfl, HY.out.1, HY.out.2⟩
      case round =>
        clear HY
        obtain ⟨bs, hbs1, hbs2, rfl, hIn, hK⟩ := hrel
        have hw2 : IntKind.i64.wrap (2 * (bs : Int)) = 2 * (bs : Int) := by rw [IntKind.wrap_i64]; omega
        have hw2' : IntKind.i64.wrap ((bs : Int) * 2) = (bs : Int) * 2 := by rw [IntKind.wrap_i64]; omega
        by_cases hbn : bs < n
        · have hdn : decide ((bs : Int) < (n : Int)) = true := by rw [decide_eq_true_eq]; omega
          have HZ := Lib.hid (And.intro hIn hK)
          clear hIn hK
          go_wp2_with fail
          go_loopw [5, 6] (fun x y wr => ∃ a : Nat, a ≤ n ∧ x = .int .i64 a ∧ y = .int .i64 ((a : Int) + 2 * (bs : Int)) ∧ Inv wr ∧ Kp [blk] V wr) (fun x _ _ => n - (intOf x).toNat)
          case atStart => exact ⟨0, Nat.zero_le _, rfl, by congr 1; omega, HZ.out.1, HZ.out.2⟩
          case round =>
            clear HZ
            obtain ⟨a2, han2, rfl, rfl, hIn, hK⟩ := hrel
            obtain ⟨b2, hb2⟩ : ∃ b2 : Nat, a2 + 2 * bs = b2 := ⟨_, rfl⟩
            rw [show (a2 : Int) + 2 * (bs : Int) = (b2 : Int) by omega]
            obtain ⟨m2, hm2⟩ : ∃ m2 : Nat, a2 + bs = m2 := ⟨_, rfl⟩
            have hwm : IntKind.i64.wrap ((a2 : Int) + (bs : Int)) = (m2 : Int) := by rw [IntKind.wrap_i64]; omega
            have hwb2 : IntKind.i64.wrap ((b2 : Int) + 2 * (bs : Int)) = (b2 : Int) + 2 * (bs : Int) := by rw [IntKind.wrap_i64]; omega
            have hord : a2 < m2 ∧ m2 < b2 := by omega
            have HB2 := Lib.hid (And.intro hb2 hm2)
            clear hb2 hm2
            by_cases hlt2 : b2 ≤ n
            · have hdd2 : decide ((b2 : Int) ≤ (n : Int)) = true := by rw [decide_eq_true_eq]; omega
              have c0 : wr.cell? ⟨d, 0, none⟩ = some (Value.func (.func 86) #[] #[lp]) := (HI.out.2.2.kp hK hdb').cell 0
              have c1 : wr.cell? ⟨d, 1, none⟩ = some (Value.func (.func 113) #[] #[s1, s2]) := (HI.out.2.2.kp hK hdb').cell 1
              have hcall := symMerge_loose lp s1 s2 blk n Inv hI hS hL hn (n + 1) a2 m2 b2 (by omega) (by omega) (by omega) (by omega) wr hIn (Nat.lt_of_lt_of_le hbV hK.size)
              have HCL := Lib.hid hcall
              have HK := Lib.hid hK
              clear hcall hIn hK
              go_wp2_with fail
              refine HCL.out.mono ?_
              rintro e w5 ⟨rfl, hI5, k5⟩
              have HY := Lib.hid (And.intro hI5 (HK.out.trans k5))
              clear hI5 k5 c0 c1
              go_wp2_with fail
              go_roundw
              case rel => exact ⟨b2, hlt2, rfl, rfl, HY.out.1, HY.out.2⟩
              case measure => simp [intOf]; omega
            · have hdd2 : decide ((b2 : Int) ≤ (n : Int)) = false := by rw [decide_eq_false_iff_not]; omega
              by_cases hmn : m2 < n
              · have hdm : decide ((m2 : Int) < (n : Int)) = true := by rw [decide_eq_true_eq]; omega
                have c0 : wr.cell? ⟨d, 0, none⟩ = some (Value.func (.func 86) #[] #[lp]) := (HI.out.2.2.kp hK hdb').cell 0
                have c1 : wr.cell? ⟨d, 1, none⟩ = some (Value.func (.func 113) #[] #[s1, s2]) := (HI.out.2.2.kp hK hdb').cell 1
                have hcall := symMerge_loose lp s1 s2 blk n Inv hI hS hL hn (n + 1) a2 m2 n (by omega) (by omega) (by omega) (by omega) wr hIn (Nat.lt_of_lt_of_le hbV hK.size)
                have HCL := Lib.hid hcall
                have HK := Lib.hid hK
                clear hcall hIn hK
                go_wp2_with fail
                refine HCL.out.mono ?_
                rintro e w5 ⟨rfl, hI5, k5⟩
                have HY := Lib.hid (And.intro hI5 (HK.out.trans k5))
                clear hI5 k5 c0 c1
                go_wp2_with fail
                go_roundw
                case rel => exact ⟨2 * bs, by omega, by omega, by congr 1; omega, HY.out.1, HY.out.2⟩
                case measure => simp [intOf]; omega
              · have hdm : decide ((m2 : Int) < (n : Int)) = false := by rw [decide_eq_false_iff_not]; omega
                have HY := Lib.hid (And.intro hIn hK)
                clear hIn hK
                go_wp2_with fail
                go_roundw
                case rel => exact ⟨2 * bs, by omega, by omega, by congr 1; omega, HY.out.1, HY.out.2⟩
                case measure => simp [intOf]; omega
        · have hdn : decide ((bs : Int) < (n : Int)) = false := by rw [decide_eq_false_iff_not]; omega
          have HZ := Lib.hid (And.intro hIn hK)
          clear hIn hK
          go_wp2_with fail
          go_end0
          exact ⟨rfl, HZ.out.1, (Kp.of_below HI.out.2.1 [blk]).trans HZ.out.2⟩
end Go.Proofs.YtlafdmmjbkdkaaaGreatDoor
