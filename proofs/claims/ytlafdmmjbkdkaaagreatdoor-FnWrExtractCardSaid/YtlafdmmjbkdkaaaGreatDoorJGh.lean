/-
  cbor.Decoder over any text: stepHelper_acceptValue at a byte string's head. Conditions: as the contract says.
  cbor.Decoder over any text: stepHelper_acceptValue at a link: tag 42 and a byte string. Conditions: as the contract says.
  cbor.Decoder.Step within an array of links: one more link; the array's end, where the map's phase is taken up again. Conditions: as each contract says.
  cbor.Decoder.step_acceptArrValue: one more link. Conditions: as the contract says.
-/
import Derived.Test.YtlafdmmjbkdkaaaGreatDoorJGe
namespace Go.Proofs.YtlafdmmjbkdkaaaGreatDoor
open Go.RowKit

/-- The cells of a token, with its bytes and its tag. -/
def tokB (ty len : Int) (str : List UInt8) (bs : Value) (u : Int) (fl : Value) (tg : Bool) (tag : Int) : Array Value := #[.int .u8 ty, .int .i64 len, .string ⟨str.toArray⟩, bs, .bool false, .int .i64 0, .int .u64 u, fl, .bool tg, .int .i64 tag]

set_option maxRecDepth 100000 in
set_option maxHeartbeats 4000000 in
theorem helpBytes (d s q r g c i j k sk lf sl ll tk : Nat) (b m m2 : Int) (ph ty len u tag : Int) (str T : List UInt8) (bs fl : Value) (tg : Bool) (aE : Addr) (w : World) (hb0 : 64 ≤ b) (hb1 : b < 95) (hd : Dis d s q r g sk lf tk) (hD : Blk w d 191 (decC s sk lf sl ph ll)) (hT : Blk w tk 153 (tokB ty len str bs u fl tg tag))
    (hS : StrG w s q r g c T aE i m) (hgl : g < w.heap.size) (hj : j + (k + 1) ≤ T.length) (hk : k + 1 ≤ 4096) (hm : 0 ≤ m2 ∧ m2 ≤ 100000)
    (HL : ∀ W, StrG W s q r g c T aE i m → Blk W d 191 (decC s sk lf sl ph ll) → Calls Tryz.prog 141 #[.pointer (some ⟨d, 0, none⟩), .int .u8 b] W fun e w' => e = .returned (.tuple #[.int .i64 ((k : Int) + 1), .nilIface]) ∧ StrG w' s q r g c T aE j m2 ∧ Kp [s, q, r] W w') :
    Calls Tryz.prog 124 #[.pointer (some ⟨d, 0, none⟩), .int .u8 b, .pointer (some ⟨tk, 0, none⟩)] w fun e w' => ∃ bk cc, e = .returned (.tuple #[.bool true, .nilIface]) ∧
      Blk w' tk 153 (tokB 120 len str (.slice (some ⟨bk, 0, none⟩) (k + 1) cc) u fl tg tag) ∧ Bs w' bk 0 ((T.drop j).take (k + 1)) ∧ k + 1 ≤ cc ∧ w.heap.size ≤ bk ∧ StrG w' s q r g c T aE (j + (k + 1)) (m2 + (k + 1)) ∧ Kp [tk, s, q, r] w w' := by
  have e246 : (b == 246) = false := by rw [beq_eq_false_iff_ne]; omega
  have e247 : (b == 247) = false := by rw [beq_eq_false_iff_ne]; omega
  have e244 : (b == 244) = false := by rw [beq_eq_false_iff_ne]; omega
  have e245 : (b == 245) = false := by rw [beq_eq_false_iff_ne]; omega
  have e249 : (b == 249) = false := by rw [beq_eq_false_iff_ne]; omega
  have e250 : (b == 250) = false := by rw [beq_eq_false_iff_ne]; omega
  have e251 : (b == 251) = false := by rw [beq_eq_false_iff_ne]; omega
  have e95 : (b == 95) = false := by rw [beq_eq_false_iff_ne]; omega
  have e127 : (b == 127) = false := by rw [beq_eq_false_iff_ne]; omega
  have e159 : (b == 159) = false := by rw [beq_eq_false_iff_ne]; omega
  have e191 : (b == 191) = false := by rw [beq_eq_false_iff_ne]; omega
  have r0 : decide (0 ≤ b) = true := by rw [decide_eq_true_eq]; omega
  have r1 : decide (b < 32) = false := by rw [decide_eq_false_iff_not]; omega
  have r2 : decide (32 ≤ b) = true := by rw [decide_eq_true_eq]; omega
  have r3 : decide (b < 64) = false := by rw [decide_eq_false_iff_not]; omega
  have r4 : decide (64 ≤ b) = true := by rw [decide_eq_true_eq]; omega
  have r5 : decide (b < 96) = true := by rw [decide_eq_true_eq]; omega
  obtain ⟨⟨x1, x2, x3, x4, x5, x6, x7⟩, ⟨y1, y2, y3, y4, y5, y6⟩, ⟨z1, z2, z3, z4, z5⟩, ⟨t1, t2, t3, t4⟩, ⟨v1, v2, v3, v4⟩⟩ := hd
  have q0 : w.cell? ⟨tk, 0, none⟩ = some (.int .u8 ty) := hT.cell 0
  have f0 := hT.frozen 0
  have htl := hT.lt
  have hT1 : Blk (w.setCell ⟨tk, 0, none⟩ (.int .u8 120)) tk 153 (tokB 120 len str bs u fl tg tag) := hT.set_ 0 _
  have k1 := (Kp.refl [tk] w).setCell (p := ⟨tk, 0, none⟩) (.inl (by simp)) (.int .u8 120)
  have D1 := hD.kp k1 (by simp [x7])
  have S1 := hS.kp k1 (by simp [t1.symm, t2.symm, t3.symm, t4.symm, v4])
  have hsz : (w.setCell ⟨tk, 0, none⟩ (.int .u8 120)).heap.size = w.heap.size := by simp
  obtain ⟨X, hX⟩ : ∃ X, w.setCell ⟨tk, 0, none⟩ (.int .u8 120) = X := ⟨_, rfl⟩
  rw [hX] at hT1 k1 D1 S1 hsz
  have hdb := decBytes d s q r g c i j k sk lf sl ll (.int .u8 b) m m2 ph T aE X D1 ⟨x1, x2, x3⟩ (by omega) (HL X S1 D1) hj hk hm
  have H := Lib.hid (And.intro hdb (And.intro hT1 (And.intro k1 (And.intro hsz (And.intro t1 (And.intro t2 (And.intro t3 (And.intro t4 v4))))))))
  have HX := Lib.hid hX
  clear hdb hT1 k1 D1 S1 hsz hX hT hD hS HL x1 x2 x3 x4 x5 x6 x7 y1 y2 y3 y4 y5 y6 z1 z2 z3 z4 z5 t1 t2 t3 t4 v1 v2 v3 v4 hj hk hm hgl hb0 hb1
  go_enter Tryz.func124, Tryz.ntmps124
  go_wp2_with fail
  rw [HX.out]
  refine H.out.1.mono ?_
  rintro e w1 ⟨bk, cc, rfl, hB, hc, hbk, hS, hK⟩
  have T1 := H.out.2.1.kp hK (by simp [H.out.2.2.2.2.1, H.out.2.2.2.2.2.1, H.out.2.2.2.2.2.2.1])
  have p3 : w1.cell? ⟨tk, 3, none⟩ = some bs := T1.cell 3
  have f3 := T1.frozen 3
  have hbt : bk ≠ tk := by
    have := H.out.2.2.2.1
    omega
  have HB := Lib.hid (And.intro T1 (And.intro hB (And.intro hc (And.intro hbk (And.intro hS hK)))))
  clear T1 hB hc hbk hS hK q0 f0
  go_wp2_with fail
  go_ret2
  have kk : Kp [tk, s, q, r] w w1 := (H.out.2.2.1.weaken (l' := [tk, s, q, r]) (by simp)).step HB.out.2.2.2.2.2 (by simp)
  have k2 := (Kp.refl [tk] w1).setCell (p := ⟨tk, 3, none⟩) (.inl (by simp)) (.slice (some ⟨bk, 0, none⟩) (k + 1) cc)
  have hs2 := HB.out.2.2.2.2.1
  obtain ⟨_, _, _, hz, t1, t2, t3, t4, v4⟩ := H.out
  exact ⟨bk, cc, rfl, HB.out.1.set_ 3 _, HB.out.2.1.far (p := ⟨tk, 3, none⟩) hbt _, HB.out.2.2.1, by have := HB.out.2.2.2.1; omega, hs2.kp k2 (by simp [t1.symm, t2.symm, t3.symm, t4.symm, v4]), kk.setCell (p := ⟨tk, 3, none⟩) (.inl (by simp)) _⟩
end Go.Proofs.YtlafdmmjbkdkaaaGreatDoor

namespace Go.Proofs.YtlafdmmjbkdkaaaGreatDoor
open Go.RowKit

set_option maxRecDepth 100000 in
set_option maxHeartbeats 4000000 in
theorem helpTag (d s q r g c i j k sk lf sl ll tk : Nat) (b m m2 : Int) (ph ty len u : Int) (str T : List UInt8) (bs fl : Value) (tag : Int) (aE : Addr) (w : World) (hb0 : 64 ≤ b) (hb1 : b < 95) (hd : Dis d s q r g sk lf tk) (hD : Blk w d 191 (decC s sk lf sl ph ll)) (hT : Blk w tk 153 (tokB ty len str bs u fl false tag))
    (hS : StrG w s q r g c T aE i m) (hgl : g < w.heap.size) (hi : i + 1 < T.length) (h42 : ((T[i]'(by omega)).toNat : Int) = 42) (hbb : ((T[i + 1]'hi).toNat : Int) = b) (hj : j + (k + 1) ≤ T.length) (hk : k + 1 ≤ 4096) (hm : 0 ≤ m ∧ m ≤ 90000) (hm2 : 0 ≤ m2 ∧ m2 ≤ 100000)
    (HL : ∀ W, StrG W s q r g c T aE (i + 1 + 1) (m + 1 + 1) → Blk W d 191 (decC s sk lf sl ph ll) → Calls Tryz.prog 141 #[.pointer (some ⟨d, 0, none⟩), .int .u8 b] W fun e w' => e = .returned (.tuple #[.int .i64 ((k : Int) + 1), .nilIface]) ∧ StrG w' s q r g c T aE j m2 ∧ Kp [s, q, r] W w') :
    Calls Tryz.prog 124 #[.pointer (some ⟨d, 0, none⟩), .int .u8 216, .pointer (some ⟨tk, 0, none⟩)] w fun e w' => ∃ bk cc, e = .returned (.tuple #[.bool true, .nilIface]) ∧
      Blk w' tk 153 (tokB 120 len str (.slice (some ⟨bk, 0, none⟩) (k + 1) cc) u fl true 42) ∧ Bs w' bk 0 ((T.drop j).take (k + 1)) ∧ k + 1 ≤ cc ∧ w.heap.size ≤ bk ∧ StrG w' s q r g c T aE (j + (k + 1)) (m2 + (k + 1)) ∧ Kp [tk, s, q, r] w w' := by
  have hmr := srn_m s
  obtain ⟨⟨x1, x2, x3, x4, x5, x6, x7⟩, ⟨y1, y2, y3, y4, y5, y6⟩, ⟨z1, z2, z3, z4, z5⟩, ⟨t1, t2, t3, t4⟩, ⟨v1, v2, v3, v4⟩⟩ := id hd
  have q8 : w.cell? ⟨tk, 8, none⟩ = some (.bool false) := hT.cell 8
  have f8 := hT.frozen 8
  have hT1 : Blk (w.setCell ⟨tk, 8, none⟩ (.bool true)) tk 153 (tokB ty len str bs u fl true tag) := hT.set_ 8 _
  have k1 := (Kp.refl [tk] w).setCell (p := ⟨tk, 8, none⟩) (.inl (by simp)) (.bool true)
  have D1 := hD.kp k1 (by simp [x7])
  have S1 := hS.kp k1 (by simp [t1.symm, t2.symm, t3.symm, t4.symm, v4])
  have hsz : (w.setCell ⟨tk, 8, none⟩ (.bool true)).heap.size = w.heap.size := by simp
  obtain ⟨X, hX⟩ : ∃ X, w.setCell ⟨tk, 8, none⟩ (.bool true) = X := ⟨_, rfl⟩
  rw [hX] at hT1 k1 D1 S1 hsz
  have hdl := dl_of (.pointer (some ⟨d, 0, none⟩)) (.int .u8 216) 42 X _ (by omega) (by omega) (duOne d s q r g c i sk lf sl ll 216 m 42 ph T aE X (by decide) D1 ⟨x1, x2, x3⟩ S1 (by omega) ⟨hm.1, by omega⟩ h42 (by omega) (by omega))
  have H := Lib.hid (And.intro hdl (And.intro hT1 (And.intro k1 (And.intro D1 (And.intro hsz (And.intro hd HL))))))
  have HP := Lib.hid (And.intro hb0 (And.intro hb1 (And.intro hi (And.intro hbb (And.intro hj (And.intro hk (And.intro hm (And.intro hm2 hgl))))))))
  have HX := Lib.hid hX
  clear hdl hT1 k1 D1 S1 hsz hX hT hD hS HL x1 x2 x3 x4 x5 x6 x7 y1 y2 y3 y4 y5 y6 z1 z2 z3 z4 z5 t1 t2 t3 t4 v1 v2 v3 v4 hj hk hm hm2 hgl hb0 hb1 hd h42 hbb
  go_enter Tryz.func124, Tryz.ntmps124
  go_wp2_with fail
  rw [HX.out]
  refine H.out.1.mono ?_
  rintro e w1 ⟨rfl, hS, hK⟩
  have hd := H.out.2.2.2.2.2.1
  have T1 := H.out.2.1.kp hK (by simp [hd.tt.1, hd.tt.2.1, hd.tt.2.2.1])
  have D1 := H.out.2.2.2.1.kp hK (by simp [hd.dd.1, hd.dd.2.1, hd.dd.2.2.1])
  have p9 : w1.cell? ⟨tk, 9, none⟩ = some (.int .i64 tag) := T1.cell 9
  have f9 := T1.frozen 9
  have q7 : w1.cell? ⟨d, 7, none⟩ = some (.iface 218 (.pointer (some ⟨s, 0, none⟩))) := D1.cell 7
  have hdt : ¬ tk = d := fun h => hd.dd.2.2.2.2.2.2 h.symm
  have HB := Lib.hid (And.intro T1 (And.intro D1 (And.intro hS hK)))
  clear T1 D1 hS hK q8 f8 hd
  go_wp2_with fail
  clear p9 f9 q7
  have hd := H.out.2.2.2.2.2.1
  have T2 : Blk (w1.setCell ⟨tk, 9, none⟩ (.int .i64 42)) tk 153 (tokB ty len str bs u fl true 42) := HB.out.1.set_ 9 _
  have k2 := (Kp.refl [tk] w1).setCell (p := ⟨tk, 9, none⟩) (.inl (by simp)) (.int .i64 42)
  have D2 := HB.out.2.1.kp k2 (by simp [hd.dd.2.2.2.2.2.2])
  have S2 := HB.out.2.2.1.kp k2 (by simp [hd.tt.1.symm, hd.tt.2.1.symm, hd.tt.2.2.1.symm, hd.tt.2.2.2.symm, hd.ee.2.2.2])
  generalize w1.setCell ⟨tk, 9, none⟩ (.int .i64 42) = w2 at *
  refine (readn1_strG s q r g c (i + 1) (m + 1) b T aE w2 S2 HP.out.2.2.1 (by have := HP.out.2.2.2.2.2.2.1; omega) HP.out.2.2.2.1).mono ?_
  rintro e w3 ⟨rfl, S3, k3⟩
  have T3 := T2.kp k3 (by simp [hd.tt.1, hd.tt.2.1, hd.tt.2.2.1])
  have D3 := D2.kp k3 (by simp [hd.dd.1, hd.dd.2.1, hd.dd.2.2.1])
  have kX3 : Kp [tk, s, q, r] X w3 := ((HB.out.2.2.2.weaken (l' := [tk, s, q, r]) (by simp)).step k2 (by simp)).step k3 (by simp)
  have HC := Lib.hid (And.intro T3 (And.intro D3 (And.intro S3 kX3)))
  clear T2 k2 D2 S2 S3 k3 T3 D3 kX3 hd
  go_wp2_with fail
  have s3 := HC.out.2.2.2.size
  refine (helpBytes d s q r g c (i + 1 + 1) j k sk lf sl ll tk b (m + 1 + 1) m2 ph ty len u 42 str T bs fl true aE w3 HP.out.1 HP.out.2.1 H.out.2.2.2.2.2.1 HC.out.2.1 HC.out.1 HC.out.2.2.1 (by have := HP.out.2.2.2.2.2.2.2.2; have := H.out.2.2.2.2.1; omega) HP.out.2.2.2.2.1 HP.out.2.2.2.2.2.1 HP.out.2.2.2.2.2.2.2.1 H.out.2.2.2.2.2.2).mono ?_
  rintro e w4 ⟨bk, cc, rfl, T4, B4, hc, hbk, S4, k4⟩
  have HE := Lib.hid (And.intro T4 (And.intro B4 (And.intro hc (And.intro hbk (And.intro S4 k4)))))
  clear T4 B4 hc hbk S4 k4
  go_wp2_with fail
  go_ret2
  have hz := H.out.2.2.2.2.1
  exact ⟨bk, cc, rfl, HE.out.1, HE.out.2.1, HE.out.2.2.1, by have := HE.out.2.2.2.1; omega, HE.out.2.2.2.2.1, ((H.out.2.2.1.weaken (l' := [tk, s, q, r]) (by simp)).trans HC.out.2.2.2).trans HE.out.2.2.2.2.2⟩
end Go.Proofs.YtlafdmmjbkdkaaaGreatDoor

namespace Go.Proofs.YtlafdmmjbkdkaaaGreatDoor
open Go.RowKit

set_option maxRecDepth 100000 in
set_option maxHeartbeats 4000000 in
theorem stArrEnd (d s sk lf tk : Nat) (ty len u tag : Int) (str : List UInt8) (bs fl l0 : Value) (tg : Bool) (lr : List Value) (w : World) (hdt : d ≠ tk) (hD : Blk w d 191 (decC s sk lf 2 4 2)) (hl : Blk w lf 3 (l0 :: .int .i64 0 :: lr).toArray)
    (hT : Blk w tk 153 (tokB ty len str bs u fl tg tag)) :
    Calls Tryz.prog 99 #[.pointer (some ⟨d, 0, none⟩), .pointer (some ⟨tk, 0, none⟩)] w fun e w' => e = .returned (.tuple #[.bool true, .nilIface]) ∧
      Blk w' tk 153 (tokB 93 len str bs u fl tg tag) ∧ Blk w' d 191 (decC s sk lf 2 4 1) ∧ Kp [tk, d] w w' := by
  have q10 : w.cell? ⟨d, 10, none⟩ = some (.slice (some ⟨lf, 0, none⟩) 2 10) := hD.cell 10
  have g10 := hD.frozen 10
  have c1 : w.cell? ⟨lf, 1, none⟩ = some (.int .i64 0) := hl.cell 1
  have t0 : w.cell? ⟨tk, 0, none⟩ = some (.int .u8 ty) := hT.cell 0
  have f0 := hT.frozen 0
  have ndt : ¬ d = tk := hdt
  have ntd : ¬ tk = d := fun h => hdt h.symm
  go_enter Tryz.func99, Tryz.ntmps99
  go_wp2_with fail
  go_ret2
  exact ⟨rfl, (hT.far (p := ⟨d, 10, none⟩) ntd _).set_ 0 _, (hD.set_ 10 _).far (p := ⟨tk, 0, none⟩) ndt _, ((Kp.refl [tk, d] w).setCell (p := ⟨d, 10, none⟩) (.inl (by simp)) _).setCell (p := ⟨tk, 0, none⟩) (.inl (by simp)) _⟩

set_option maxRecDepth 100000 in
set_option maxHeartbeats 2000000 in
theorem stepArr (d s sk lf tk sl ll : Nat) (w : World) (Post : World → Prop) (hD : Blk w d 191 (decC s sk lf sl 4 ll))
    (HR : Calls Tryz.prog 99 #[.pointer (some ⟨d, 0, none⟩), .pointer (some ⟨tk, 0, none⟩)] w fun e w' => e = .returned (.tuple #[.bool false, .nilIface]) ∧ Post w') :
    Calls Tryz.prog 82 #[.pointer (some ⟨d, 0, none⟩), .pointer (some ⟨tk, 0, none⟩)] w fun e w' => e = .returned (.tuple #[.bool false, .nilIface]) ∧ Post w' := by
  have q9 : w.cell? ⟨d, 9, none⟩ = some (.int .u8 4) := hD.cell 9
  have H := Lib.hid HR
  clear HR hD
  go_enter Tryz.func82, Tryz.ntmps82
  go_wp2_with fail
  refine H.out.mono ?_
  rintro e w1 ⟨rfl, hP⟩
  have HP := Lib.hid hP
  clear hP q9
  go_wp2_with fail
  go_ret2
  exact ⟨rfl, HP.out⟩

set_option maxRecDepth 100000 in
set_option maxHeartbeats 2000000 in
theorem stepPop (d s sk lf tk ll ll' : Nat) (ph : Int) (k0 : Value) (kr : List Value) (w : World) (Post : World → Prop) (hD : Blk w d 191 (decC s sk lf 2 4 ll))
    (HR : Calls Tryz.prog 99 #[.pointer (some ⟨d, 0, none⟩), .pointer (some ⟨tk, 0, none⟩)] w fun e w' => e = .returned (.tuple #[.bool true, .nilIface]) ∧ Blk w' d 191 (decC s sk lf 2 4 ll') ∧ Blk w' sk 189 (k0 :: .int .u8 ph :: kr).toArray ∧ Post w') (hds : d ≠ sk) :
    Calls Tryz.prog 82 #[.pointer (some ⟨d, 0, none⟩), .pointer (some ⟨tk, 0, none⟩)] w fun e w' => e = .returned (.tuple #[.bool false, .nilIface]) ∧ Blk w' d 191 (decC s sk lf 1 ph ll') ∧ ∃ w1, Post w1 ∧ Kp [d] w1 w' := by
  have q9 : w.cell? ⟨d, 9, none⟩ = some (.int .u8 4) := hD.cell 9
  have hsd : ¬ sk = d := fun e => hds e.symm
  have H := Lib.hid HR
  clear HR hD
  go_enter Tryz.func82, Tryz.ntmps82
  go_wp2_with fail
  refine H.out.mono ?_
  rintro e w1 ⟨rfl, hB, hK, hP⟩
  have p8 : w1.cell? ⟨d, 8, none⟩ = some (.slice (some ⟨sk, 0, none⟩) 2 10) := hB.cell 8
  have p9 : w1.cell? ⟨d, 9, none⟩ = some (.int .u8 4) := hB.cell 9
  have f8 := hB.frozen 8
  have f9 := hB.frozen 9
  have c1 : w1.cell? ⟨sk, 1, none⟩ = some (.int .u8 ph) := hK.cell 1
  have HP := Lib.hid (And.intro hB hP)
  clear hP q9 hB hK
  go_wp2_with fail
  go_ret2
  exact ⟨rfl, (HP.out.1.set_ 9 _).set_ 8 _, w1, HP.out.2, ((Kp.refl [d] w1).setCell (p := ⟨d, 9, none⟩) (.inl (by simp)) _).setCell (p := ⟨d, 8, none⟩) (.inl (by simp)) _⟩
end Go.Proofs.YtlafdmmjbkdkaaaGreatDoor

namespace Go.Proofs.YtlafdmmjbkdkaaaGreatDoor
open Go.RowKit

set_option maxRecDepth 100000 in
set_option maxHeartbeats 4000000 in
theorem stArr (d s q r g c i j k sk lf tk : Nat) (b m m2 n : Int) (ty len u : Int) (str T : List UInt8) (bs fl l0 : Value) (tag : Int) (lr : List Value) (aE : Addr) (w : World) (hn0 : 0 ≤ n) (hn1 : n ≤ 1000) (hb0 : 64 ≤ b) (hb1 : b < 95) (hd : Dis d s q r g sk lf tk) (hD : Blk w d 191 (decC s sk lf 2 4 2)) (hl : Blk w lf 3 (l0 :: .int .i64 (n + 1) :: lr).toArray)
    (hT : Blk w tk 153 (tokB ty len str bs u fl false tag)) (hS : StrG w s q r g c T aE i m) (hgl : g < w.heap.size) (hi : i + 1 + 1 < T.length) (h216 : ((T[i]'(by omega)).toNat : Int) = 216) (h42 : ((T[i + 1]'(by omega)).toNat : Int) = 42) (hbb : ((T[i + 1 + 1]'hi).toNat : Int) = b) (hj : j + (k + 1) ≤ T.length) (hk : k + 1 ≤ 4096) (hm : 0 ≤ m ∧ m ≤ 80000) (hm2 : 0 ≤ m2 ∧ m2 ≤ 100000)
    (HL : ∀ W, StrG W s q r g c T aE (i + 1 + 1 + 1) (m + 1 + 1 + 1) → Blk W d 191 (decC s sk lf 2 4 2) → Calls Tryz.prog 141 #[.pointer (some ⟨d, 0, none⟩), .int .u8 b] W fun e w' => e = .returned (.tuple #[.int .i64 ((k : Int) + 1), .nilIface]) ∧ StrG w' s q r g c T aE j m2 ∧ Kp [s, q, r] W w') :
    Calls Tryz.prog 99 #[.pointer (some ⟨d, 0, none⟩), .pointer (some ⟨tk, 0, none⟩)] w fun e w' => e = .returned (.tuple #[.bool false, .nilIface]) ∧ ∃ bk cc,
      Blk w' tk 153 (tokB 120 len str (.slice (some ⟨bk, 0, none⟩) (k + 1) cc) u fl true 42) ∧ Bs w' bk 0 ((T.drop j).take (k + 1)) ∧ k + 1 ≤ cc ∧ w.heap.size ≤ bk ∧ Blk w' d 191 (decC s sk lf 2 4 2) ∧ Blk w' lf 3 (l0 :: .int .i64 n :: lr).toArray ∧ StrG w' s q r g c T aE (j + (k + 1)) (m2 + (k + 1)) ∧ Kp [tk, lf, s, q, r] w w' := by
  have hmr := srn_m s
  have q10 : w.cell? ⟨d, 10, none⟩ = some (.slice (some ⟨lf, 0, none⟩) 2 10) := hD.cell 10
  have c1 : w.cell? ⟨lf, 1, none⟩ = some (.int .i64 (n + 1)) := hl.cell 1
  have f1 := hl.frozen 1
  have q7 : w.cell? ⟨d, 7, none⟩ = some (.iface 218 (.pointer (some ⟨s, 0, none⟩))) := hD.cell 7
  have nld : ¬ lf = d := fun h => hd.dd.2.2.2.2.2.1 h.symm
  have hne : ((n + 1) == 0) = false := by rw [beq_eq_false_iff_ne]; omega
  have hw : IntKind.i64.wrap n = n := by rw [IntKind.wrap_i64]; omega
  have HD := Lib.hid (And.intro hD (And.intro hl (And.intro hT (And.intro hS hd))))
  have HP := Lib.hid (And.intro hb0 (And.intro hb1 (And.intro h216 (And.intro h42 (And.intro hbb (And.intro hj (And.intro hk (And.intro hm (And.intro hm2 (And.intro hgl HL))))))))))
  clear hD hl hT hS hd hb0 hb1 h216 h42 hbb hj hk hm hm2 hgl HL
  go_enter Tryz.func99, Tryz.ntmps99
  go_wp2_with fail
  have hd := HD.out.2.2.2.2
  have k0 := (Kp.refl [lf] w).setCell (p := ⟨lf, 1, none⟩) (.inl (by simp)) (.int .i64 n)
  have L0 : Blk (w.setCell ⟨lf, 1, none⟩ (.int .i64 n)) lf 3 (l0 :: .int .i64 n :: lr).toArray := HD.out.2.1.set_ 1 _
  have D0 := HD.out.1.kp k0 (by simp [hd.dd.2.2.2.2.2.1])
  have T0 := HD.out.2.2.1.kp k0 (by simp [hd.ll.2.2.2.2.symm])
  have S0 := HD.out.2.2.2.1.kp k0 (by simp [hd.ll.1.symm, hd.ll.2.1.symm, hd.ll.2.2.1.symm, hd.ll.2.2.2.1.symm, hd.ee.2.2.1])
  have z0 : (w.setCell ⟨lf, 1, none⟩ (.int .i64 n)).heap.size = w.heap.size := by simp
  clear q10 c1 f1 q7
  generalize w.setCell ⟨lf, 1, none⟩ (.int .i64 n) = w0 at *
  refine (readn1_strG s q r g c i m 216 T aE w0 S0 (by omega) (by have := HP.out.2.2.2.2.2.2.2.1; omega) HP.out.2.2.1).mono ?_
  rintro e w1 ⟨rfl, S1, k1⟩
  have D1 := D0.kp k1 (by simp [hd.dd.1, hd.dd.2.1, hd.dd.2.2.1])
  have L1 := L0.kp k1 (by simp [hd.ll.1, hd.ll.2.1, hd.ll.2.2.1])
  have T1 := T0.kp k1 (by simp [hd.tt.1, hd.tt.2.1, hd.tt.2.2.1])
  have t8 : w1.cell? ⟨tk, 8, none⟩ = some (.bool false) := T1.cell 8
  have f8 := T1.frozen 8
  have kk : Kp [tk, lf, s, q, r] w w1 := (k0.weaken (l' := [tk, lf, s, q, r]) (by simp)).step k1 (by simp)
  have HW := Lib.hid (And.intro D1 (And.intro L1 (And.intro T1 (And.intro S1 kk))))
  clear k0 L0 D0 T0 S0 k1 kk D1 L1 T1 S1 hd z0
  go_wp2_with fail
  clear t8 f8
  have hd := HD.out.2.2.2.2
  have T2 : Blk (w1.setCell ⟨tk, 8, none⟩ (.bool false)) tk 153 (tokB ty len str bs u fl false tag) := HW.out.2.2.1.set_ 8 _
  have k2 := (Kp.refl [tk] w1).setCell (p := ⟨tk, 8, none⟩) (.inl (by simp)) (.bool false)
  have D2 := HW.out.1.kp k2 (by simp [hd.dd.2.2.2.2.2.2])
  have L2 := HW.out.2.1.kp k2 (by simp [hd.ll.2.2.2.2])
  have S2 := HW.out.2.2.2.1.kp k2 (by simp [hd.tt.1.symm, hd.tt.2.1.symm, hd.tt.2.2.1.symm, hd.tt.2.2.2.symm, hd.ee.2.2.2])
  generalize w1.setCell ⟨tk, 8, none⟩ (.bool false) = w2 at *
  have s2 := (HW.out.2.2.2.2.trans (k2.weaken (l' := [tk, lf, s, q, r]) (by simp))).size
  refine (helpTag d s q r g c (i + 1) j k sk lf 2 2 tk b (m + 1) m2 4 ty len u str T bs fl tag aE w2 HP.out.1 HP.out.2.1 hd D2 T2 S2 (by have := HP.out.2.2.2.2.2.2.2.2.2.1; omega) hi HP.out.2.2.2.1 HP.out.2.2.2.2.1 HP.out.2.2.2.2.2.1 HP.out.2.2.2.2.2.2.1 (by have := HP.out.2.2.2.2.2.2.2.1; omega) HP.out.2.2.2.2.2.2.2.2.1 HP.out.2.2.2.2.2.2.2.2.2.2).mono ?_
  rintro e w3 ⟨bk, cc, rfl, T3, B3, hc, hbk, S3, k3⟩
  have D3 := D2.kp k3 (by simp [hd.dd.1, hd.dd.2.1, hd.dd.2.2.1, hd.dd.2.2.2.2.2.2])
  have L3 := L2.kp k3 (by simp [hd.ll.1, hd.ll.2.1, hd.ll.2.2.1, hd.ll.2.2.2.2])
  have k13 : Kp [tk, lf, s, q, r] w w3 := (HW.out.2.2.2.2.step k2 (by simp)).step k3 (by simp)
  have HH := Lib.hid (And.intro T3 (And.intro B3 (And.intro hc (And.intro (Nat.le_trans s2 hbk) (And.intro D3 (And.intro L3 (And.intro S3 k13)))))))
  clear T3 B3 hc hbk S3 k3 D3 L3 k13 T2 k2 D2 L2 S2 hd s2
  go_wp2_with fail
  go_ret2
  exact ⟨rfl, bk, cc, HH.out⟩
end Go.Proofs.YtlafdmmjbkdkaaaGreatDoor
