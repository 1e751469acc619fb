/-
  The walk of laws.FnC2Open: it returns true at every argument, and nothing that was there has turned. Conditions: the arguments' ranges; the two errors of package io where they are laid.
-/
import Derived.Test.YtakkdpbpoghfgaaGreatDoorNy
namespace Go.Proofs.YtakkdpbpoghfgaaGreatDoor
open Go.RowKit

theorem ba_appF (a b : List UInt8) : (⟨a.toArray⟩ : ByteArray) ++ ⟨b.toArray⟩ = ⟨(a ++ b).toArray⟩ := str_app a b

set_option maxRecDepth 100000 in
theorem newHead1 (w : World) : Calls Tryz.prog 6 #[.int .u64 1] w fun e w' => e = .returned (.agg #[.int .u64 0, .int .u64 0, .int .u64 51, .int .u64 1, .int .u64 52]) ∧ Below w.heap.size w w' := by
  go_enter Tryz.func6, Tryz.ntmps6
  go_wp2
  refine bodyPost_ret (v := .agg #[.int .u64 0, .int .u64 0, .int .u64 51, .int .u64 1, .int .u64 52]) (by simp [results, Tryz.results6, go_sem]) rfl ⟨rfl, ?_⟩
  exact (Below.refl _ _).alloc (by simp) _

set_option maxRecDepth 100000 in
set_option maxHeartbeats 8000000 in
theorem fnC2Open_walk (x y u v z : Int) (l : List UInt8) (cn : Nat) (aE aU : Addr) (w : World) (hx : 0 ≤ x ∧ x < 18446744073709551616) (hy : 0 ≤ y ∧ y < 18446744073709551616) (hu : 0 ≤ u ∧ u < 18446744073709551616) (hv : 0 ≤ v ∧ v < 18446744073709551616) (hz : 0 ≤ z ∧ z < 18446744073709551616)
    (hcn : cn < 256) (hE : Ee w 4 aE) (hU : Ee w 5 aU) :
    Calls Tryz.prog 3 #[.agg #[.int .u64 x, .int .u64 y, .int .u64 u, .int .u64 v, .int .u64 z], .string ⟨l.toArray⟩, .int .u8 cn] w fun r w' => r = .returned (.bool true) ∧ Below w.heap.size w w' := by
  obtain ⟨d, hd⟩ : ∃ d, w.heap.size = d := ⟨_, rfl⟩
  obtain ⟨W, hW⟩ : ∃ W, w.alloc (.cells #[.int .u64 x, .int .u64 y, .int .u64 u, .int .u64 v, .int .u64 z] 24) = W := ⟨_, rfl⟩
  have bW : Below w.heap.size w W := by rw [← hW]; exact Old.alloc (Below.refl _ _) _
  have D : Blk W d 24 #[.int .u64 x, .int .u64 y, .int .u64 u, .int .u64 v, .int .u64 z] := by rw [← hW, ← hd]; exact Blk.new _ _ _
  by_cases h4 : 4096 < l.length
  · have HH := Lib.hid bW
    clear bW D hx hy hu hv hz hE hU
    by_cases h31 : 2147483647 < l.length
    · have hb : decide (2147483647 < (l.length : Int)) = true := by simp; omega
      go_enter Tryz.func3, Tryz.ntmps3
      go_wp2_with fail
      go_ret
      exact ⟨rfl, HH.out⟩
    · have hb : decide (2147483647 < (l.length : Int)) = false := by simp; omega
      have hb2 : decide (4096 < (l.length : Int)) = true := by simp; omega
      go_enter Tryz.func3, Tryz.ntmps3
      go_wp2_with fail
      go_ret
      exact ⟨rfl, HH.out⟩
  have hll : l.length ≤ 4096 := by omega
  have hb : decide (2147483647 < (l.length : Int)) = false := by simp; omega
  have hb2 : decide (4096 < (l.length : Int)) = false := by simp; omega
  obtain ⟨hb40, hhb⟩ : ∃ hb40, hdBytes x y u v z = hb40 := ⟨_, rfl⟩
  have hbl : hb40.length = 40 := by rw [← hhb]; simp [hdBytes, Lib.leBytes_length]
  have c0 : W.cell? ⟨d, 0, none⟩ = some (.int .u64 x) := D.cell 0
  have c1 : W.cell? ⟨d, 1, none⟩ = some (.int .u64 y) := D.cell 1
  have c2 : W.cell? ⟨d, 2, none⟩ = some (.int .u64 u) := D.cell 2
  have c3 : W.cell? ⟨d, 3, none⟩ = some (.int .u64 v) := D.cell 3
  have c4 : W.cell? ⟨d, 4, none⟩ = some (.int .u64 z) := D.cell 4
  have hdl := D.lt
  have happ := ba_appF
  have HP := Lib.hid (And.intro (And.intro hx (And.intro hy (And.intro hu (And.intro hv hz)))) (And.intro hhb (And.intro (hE.old bW) (And.intro (hU.old bW) (And.intro bW D)))))
  have hhd := headBytes_any x y u v z W hx.1 hx.2 hy.1 hy.2 hu.1 hu.2 hv.1 hv.2 hz.1 hz.2
  rw [hhb] at hhd
  have HH := Lib.hid hhd
  clear hhd hx hy hu hv hz hhb hE hU bW D
  go_enter Tryz.func3, Tryz.ntmps3
  go_wp2_with fail
  clear hW hd
  refine HH.out.mono ?_
  rintro e w1 ⟨rfl, k1⟩
  clear c0 c1 c2 c3 c4
  go_wp2_with fail
  have s1 := k1.size
  have hfil1 : Fil x y u v z (10 :: (pt ++ (hb40 ++ l))) := by
    refine .inl ⟨by simp [pt, hbl], ?_, HP.out.1.1, HP.out.1.2.1, HP.out.1.2.2.1, HP.out.1.2.2.2.1, HP.out.1.2.2.2.2⟩
    show (hb40 ++ l).take 40 = _
    rw [List.take_left' hbl, HP.out.2.1]
  refine (rdHeader x y u v z (hb40 ++ l) (10 :: (pt ++ (hb40 ++ l))) aE aU w1 hfil1 rfl (by simp [pt, hbl]; omega) (HP.out.2.2.1.old k1) (HP.out.2.2.2.1.old k1)).mono ?_
  rintro e w2 ⟨ver, hdr, ok, rfl, Q, k2⟩
  have hcut : (10 :: 161 :: 103 :: 118 :: 101 :: 114 :: 115 :: 105 :: 111 :: 110 :: 2 :: hb40 : List UInt8).take (11 + cn % 40) = 10 :: (pt ++ hb40.take (cn % 40)) := by
    rw [Nat.add_comm 11]
    rfl
  have hlt : (10 :: (pt ++ hb40.take (cn % 40)) : List UInt8).length < 51 := by
    simp only [List.length_cons, List.length_append, List.length_take, pt, List.length_nil]
    omega
  obtain ⟨hb1, h1b⟩ : ∃ hb1, hdBytes 0 0 51 1 52 = hb1 := ⟨_, rfl⟩
  have hb1l : hb1.length = 40 := by rw [← h1b]; simp [hdBytes, Lib.leBytes_length]
  have hs1 : SoundH 51 1 52 := by unfold SoundH; omega
  have hfil2 : Fil 0 0 51 1 52 (10 :: (pt ++ hb1)) := by
    refine .inl ⟨by simp [pt, hb1l], ?_, by omega, by omega, by omega, by omega, by omega⟩
    show hb1.take 40 = _
    rw [List.take_of_length_le (by omega), h1b]
  have l51 : 51 ≤ (10 :: (pt ++ (hb40 ++ l))).length := by simp [pt, hbl]
  rcases Q with ⟨_, hs, rfl, rfl, rfl⟩ | ⟨hno, rfl, rfl, rfl⟩
  · have HK := Lib.hid (And.intro (Old.trans k1 k2) hs)
    clear k1 k2 hs hfil1 l51
    go_wp2_with fail
    have N : Blk (w2.alloc (.cells #[.int .u64 x, .int .u64 y, .int .u64 u, .int .u64 v, .int .u64 z] 24)) w2.heap.size 24 #[.int .u64 x, .int .u64 y, .int .u64 u, .int .u64 v, .int .u64 z] := Blk.new _ _ _
    have kW2 := Old.alloc HK.out.1 (.cells #[.int .u64 x, .int .u64 y, .int .u64 u, .int .u64 v, .int .u64 z] 24)
    generalize w2.alloc (.cells #[.int .u64 x, .int .u64 y, .int .u64 u, .int .u64 v, .int .u64 z] 24) = w3 at *
    rw [str_to, hcut]
    refine (rdHeader x y u v z (hb40.take (cn % 40)) (10 :: (pt ++ hb40.take (cn % 40))) aE aU w3 (.inr hlt) rfl (by omega) (HP.out.2.2.1.old kW2) (HP.out.2.2.2.1.old kW2)).mono ?_
    rintro e w4 ⟨ver, hdr, ok, rfl, Q, k4⟩
    rcases Q with ⟨h51, _⟩ | ⟨_, rfl, rfl, rfl⟩
    · omega
    have HN := Lib.hid (And.intro N (And.intro kW2 k4))
    clear N kW2 k4
    go_wp2_with fail
    have b5 := Old.alloc (Below.refl w4.heap.size w4) (.cells #[.int .u64 0, .int .u64 0, .int .u64 0, .int .u64 0, .int .u64 0] 24)
    generalize w4.alloc (.cells #[.int .u64 0, .int .u64 0, .int .u64 0, .int .u64 0, .int .u64 0] 24) = w5 at *
    refine (newHead1 w5).mono ?_
    rintro e w6 ⟨rfl, k6⟩
    go_wp2_with fail
    have hhd1 := headBytes_any 0 0 51 1 52 w6 (by omega) (by omega) (by omega) (by omega) (by omega) (by omega) (by omega) (by omega) (by omega) (by omega)
    rw [h1b] at hhd1
    refine hhd1.mono ?_
    rintro e w7 ⟨rfl, k7⟩
    have k37 := Old.trans (Old.trans (Old.trans HN.out.2.2 b5) k6) k7
    have HM := Lib.hid k37
    clear hhd1 b5 k6 k7 k37
    go_wp2_with fail
    refine (rdHeader 0 0 51 1 52 hb1 (10 :: (pt ++ hb1)) aE aU w7 hfil2 rfl (by simp [pt, hb1l]) (HP.out.2.2.1.old (Old.trans HN.out.2.1 HM.out)) (HP.out.2.2.2.1.old (Old.trans HN.out.2.1 HM.out))).mono ?_
    rintro e w8 ⟨ver, hdr, ok, rfl, Q, k8⟩
    rcases Q with ⟨_, _, rfl, rfl, rfl⟩ | ⟨hno2, _⟩
    rotate_left
    · exact absurd ⟨by simp [pt, hb1l], hs1⟩ hno2
    have HB8 := Lib.hid (Old.trans HM.out k8)
    clear k8
    have D8 := HP.out.2.2.2.2.2.old (Old.trans HN.out.2.1 HB8.out)
    have hd8 := D8.lt
    have c0 : w8.cell? ⟨d, 0, none⟩ = some (.int .u64 x) := D8.cell 0
    have c1 : w8.cell? ⟨d, 1, none⟩ = some (.int .u64 y) := D8.cell 1
    have c2 : w8.cell? ⟨d, 2, none⟩ = some (.int .u64 u) := D8.cell 2
    have c3 : w8.cell? ⟨d, 3, none⟩ = some (.int .u64 v) := D8.cell 3
    have c4 : w8.cell? ⟨d, 4, none⟩ = some (.int .u64 z) := D8.cell 4
    clear D8
    go_wp2_with fail
    have b9 := Old.alloc (Below.refl w8.heap.size w8) (.cells #[.int .u64 0, .int .u64 0, .int .u64 51, .int .u64 1, .int .u64 52] 24)
    clear c0 c1 c2 c3 c4
    generalize w8.alloc (.cells #[.int .u64 0, .int .u64 0, .int .u64 51, .int .u64 1, .int .u64 52] 24) = w9 at *
    refine (c2Sound_any x y u v z w9).mono ?_
    rintro e w10 ⟨rfl, k10⟩
    have k310 := Old.trans (Old.trans HB8.out b9) k10
    have D10 := HP.out.2.2.2.2.2.old (Old.trans HN.out.2.1 k310)
    have N10 := HN.out.1.old k310
    have HE := Lib.hid (Old.trans HP.out.2.2.2.2.1 (Old.trans HN.out.2.1 k310))
    have c0 : w10.cell? ⟨d, 0, none⟩ = some (.int .u64 x) := D10.cell 0
    have n0 : w10.cell? ⟨w2.heap.size, 0, none⟩ = some (.int .u64 x) := N10.cell 0
    have c1 : w10.cell? ⟨d, 1, none⟩ = some (.int .u64 y) := D10.cell 1
    have n1 : w10.cell? ⟨w2.heap.size, 1, none⟩ = some (.int .u64 y) := N10.cell 1
    have c2 : w10.cell? ⟨d, 2, none⟩ = some (.int .u64 u) := D10.cell 2
    have n2 : w10.cell? ⟨w2.heap.size, 2, none⟩ = some (.int .u64 u) := N10.cell 2
    have c3 : w10.cell? ⟨d, 3, none⟩ = some (.int .u64 v) := D10.cell 3
    have n3 : w10.cell? ⟨w2.heap.size, 3, none⟩ = some (.int .u64 v) := N10.cell 3
    have c4 : w10.cell? ⟨d, 4, none⟩ = some (.int .u64 z) := D10.cell 4
    have n4 : w10.cell? ⟨w2.heap.size, 4, none⟩ = some (.int .u64 z) := N10.cell 4
    clear b9 k10 k310 D10 N10
    have hG : (decide (51 ≤ u) && decide (u < 9223372036854775808) && decide (0 < v) && decide (v < 9223372036854775808) && decide (z < 9223372036854775808)) = true := by
      have hh := HK.out.2
      unfold SoundH at hh
      simp; omega
    rw [hG]
    clear hG
    go_wp2_with fail
    go_ret
    exact ⟨rfl, HE.out⟩
  · have HK := Lib.hid (And.intro (Old.trans k1 k2) hno)
    clear k1 k2 hno hfil1
    go_wp2_with fail
    have N : Blk (w2.alloc (.cells #[.int .u64 0, .int .u64 0, .int .u64 0, .int .u64 0, .int .u64 0] 24)) w2.heap.size 24 #[.int .u64 0, .int .u64 0, .int .u64 0, .int .u64 0, .int .u64 0] := Blk.new _ _ _
    have kW2 := Old.alloc HK.out.1 (.cells #[.int .u64 0, .int .u64 0, .int .u64 0, .int .u64 0, .int .u64 0] 24)
    generalize w2.alloc (.cells #[.int .u64 0, .int .u64 0, .int .u64 0, .int .u64 0, .int .u64 0] 24) = w3 at *
    rw [str_to, hcut]
    refine (rdHeader x y u v z (hb40.take (cn % 40)) (10 :: (pt ++ hb40.take (cn % 40))) aE aU w3 (.inr hlt) rfl (by omega) (HP.out.2.2.1.old kW2) (HP.out.2.2.2.1.old kW2)).mono ?_
    rintro e w4 ⟨ver, hdr, ok, rfl, Q, k4⟩
    rcases Q with ⟨h51, _⟩ | ⟨_, rfl, rfl, rfl⟩
    · omega
    have HN := Lib.hid (And.intro N (And.intro kW2 k4))
    clear N kW2 k4
    go_wp2_with fail
    have b5 := Old.alloc (Below.refl w4.heap.size w4) (.cells #[.int .u64 0, .int .u64 0, .int .u64 0, .int .u64 0, .int .u64 0] 24)
    generalize w4.alloc (.cells #[.int .u64 0, .int .u64 0, .int .u64 0, .int .u64 0, .int .u64 0] 24) = w5 at *
    refine (newHead1 w5).mono ?_
    rintro e w6 ⟨rfl, k6⟩
    go_wp2_with fail
    have hhd1 := headBytes_any 0 0 51 1 52 w6 (by omega) (by omega) (by omega) (by omega) (by omega) (by omega) (by omega) (by omega) (by omega) (by omega)
    rw [h1b] at hhd1
    refine hhd1.mono ?_
    rintro e w7 ⟨rfl, k7⟩
    have k37 := Old.trans (Old.trans (Old.trans HN.out.2.2 b5) k6) k7
    have HM := Lib.hid k37
    clear hhd1 b5 k6 k7 k37
    go_wp2_with fail
    refine (rdHeader 0 0 51 1 52 hb1 (10 :: (pt ++ hb1)) aE aU w7 hfil2 rfl (by simp [pt, hb1l]) (HP.out.2.2.1.old (Old.trans HN.out.2.1 HM.out)) (HP.out.2.2.2.1.old (Old.trans HN.out.2.1 HM.out))).mono ?_
    rintro e w8 ⟨ver, hdr, ok, rfl, Q, k8⟩
    rcases Q with ⟨_, _, rfl, rfl, rfl⟩ | ⟨hno2, _⟩
    rotate_left
    · exact absurd ⟨by simp [pt, hb1l], hs1⟩ hno2
    have HB8 := Lib.hid (Old.trans HM.out k8)
    clear k8
    have D8 := HP.out.2.2.2.2.2.old (Old.trans HN.out.2.1 HB8.out)
    have hd8 := D8.lt
    have c0 : w8.cell? ⟨d, 0, none⟩ = some (.int .u64 x) := D8.cell 0
    have c1 : w8.cell? ⟨d, 1, none⟩ = some (.int .u64 y) := D8.cell 1
    have c2 : w8.cell? ⟨d, 2, none⟩ = some (.int .u64 u) := D8.cell 2
    have c3 : w8.cell? ⟨d, 3, none⟩ = some (.int .u64 v) := D8.cell 3
    have c4 : w8.cell? ⟨d, 4, none⟩ = some (.int .u64 z) := D8.cell 4
    clear D8
    go_wp2_with fail
    have b9 := Old.alloc (Below.refl w8.heap.size w8) (.cells #[.int .u64 0, .int .u64 0, .int .u64 51, .int .u64 1, .int .u64 52] 24)
    clear c0 c1 c2 c3 c4
    generalize w8.alloc (.cells #[.int .u64 0, .int .u64 0, .int .u64 51, .int .u64 1, .int .u64 52] 24) = w9 at *
    refine (c2Sound_any x y u v z w9).mono ?_
    rintro e w10 ⟨rfl, k10⟩
    have k310 := Old.trans (Old.trans HB8.out b9) k10
    have D10 := HP.out.2.2.2.2.2.old (Old.trans HN.out.2.1 k310)
    have N10 := HN.out.1.old k310
    have HE := Lib.hid (Old.trans HP.out.2.2.2.2.1 (Old.trans HN.out.2.1 k310))
    have c0 : w10.cell? ⟨d, 0, none⟩ = some (.int .u64 x) := D10.cell 0
    have n0 : w10.cell? ⟨w2.heap.size, 0, none⟩ = some (.int .u64 0) := N10.cell 0
    have c1 : w10.cell? ⟨d, 1, none⟩ = some (.int .u64 y) := D10.cell 1
    have n1 : w10.cell? ⟨w2.heap.size, 1, none⟩ = some (.int .u64 0) := N10.cell 1
    have c2 : w10.cell? ⟨d, 2, none⟩ = some (.int .u64 u) := D10.cell 2
    have n2 : w10.cell? ⟨w2.heap.size, 2, none⟩ = some (.int .u64 0) := N10.cell 2
    have c3 : w10.cell? ⟨d, 3, none⟩ = some (.int .u64 v) := D10.cell 3
    have n3 : w10.cell? ⟨w2.heap.size, 3, none⟩ = some (.int .u64 0) := N10.cell 3
    have c4 : w10.cell? ⟨d, 4, none⟩ = some (.int .u64 z) := D10.cell 4
    have n4 : w10.cell? ⟨w2.heap.size, 4, none⟩ = some (.int .u64 0) := N10.cell 4
    clear b9 k10 k310 D10 N10
    have hG : (decide (51 ≤ u) && decide (u < 9223372036854775808) && decide (0 < v) && decide (v < 9223372036854775808) && decide (z < 9223372036854775808)) = false := by
      have hh := HK.out.2
      rw [Bool.eq_false_iff]
      intro hc
      simp only [Bool.and_eq_true, decide_eq_true_eq] at hc
      exact hh ⟨l51, hc.1.1.1.1, hc.1.1.1.2, hc.1.1.2, hc.1.2, hc.2⟩
    rw [hG]
    clear hG
    go_wp2_with fail
    go_ret
    exact ⟨rfl, HE.out⟩

theorem fnC2Open_law (x y u v z : Int) (l : List UInt8) (cut : Int) (aE aU : Addr) (w : World) (hx : 0 ≤ x ∧ x < 18446744073709551616) (hy : 0 ≤ y ∧ y < 18446744073709551616) (hu : 0 ≤ u ∧ u < 18446744073709551616) (hv : 0 ≤ v ∧ v < 18446744073709551616) (hz : 0 ≤ z ∧ z < 18446744073709551616)
    (hc0 : 0 ≤ cut) (hc1 : cut < 256) (hE : Ee w 4 aE) (hU : Ee w 5 aU) :
    Calls Tryz.prog 3 #[.agg #[.int .u64 x, .int .u64 y, .int .u64 u, .int .u64 v, .int .u64 z], .string ⟨l.toArray⟩, .int .u8 cut] w fun r w' => r = .returned (.bool true) ∧ Below w.heap.size w w' := by
  obtain ⟨cn, rfl⟩ := Int.eq_ofNat_of_zero_le hc0
  exact fnC2Open_walk x y u v z l cn aE aU w hx hy hu hv hz (by omega) hE hU
end Go.Proofs.YtakkdpbpoghfgaaGreatDoor
