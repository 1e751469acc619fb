/-
  cbor.Decoder over any text: stepHelper_acceptValue at the number 1 and at a text's head. Conditions: as each contract says.
  cbor.Decoder: stepHelper_acceptValue at the head of a map of two. Conditions: as the contract says.
  cbor.Decoder.step_acceptValue over any text that begins with a map of two. Conditions: as the contract says.
  cbor.Decoder.step_acceptMapKey over any text: a key. Conditions: as the contract says.
  cbor.Decoder.step_acceptMapValue over any text: an array's head, and the number 1. Conditions: as each contract says.
  The text of a header of version 1, and cbor.Decoder.decodeLen at its lengths. Conditions: as each contract says.
-/
import Derived.Test.YtlafdmmjbkdkaaaGreatDoorJGh
namespace Go.Proofs.YtlafdmmjbkdkaaaGreatDoor
open Go.RowKit

set_option maxRecDepth 100000 in
set_option maxHeartbeats 2000000 in
theorem help1 (d tk : Nat) (ty len u tag : Int) (str : List UInt8) (bs fl : Value) (tg : Bool) (w : World) (hT : Blk w tk 153 (tokB ty len str bs u fl tg tag)) :
    Calls Tryz.prog 124 #[.pointer (some ⟨d, 0, none⟩), .int .u8 1, .pointer (some ⟨tk, 0, none⟩)] w fun e w' => e = .returned (.tuple #[.bool true, .nilIface]) ∧
      Blk w' tk 153 (tokB 117 len str bs 1 fl tg tag) ∧ Kp [tk] w w' := by
  have q0 : w.cell? ⟨tk, 0, none⟩ = some (.int .u8 ty) := hT.cell 0
  have f0 := hT.frozen 0
  go_enter Tryz.func124, Tryz.ntmps124
  go_wp2_with fail
  have hT1 : Blk (w.setCell ⟨tk, 0, none⟩ (.int .u8 117)) tk 153 (tokB 117 len str bs u fl tg tag) := hT.set_ 0 _
  have k1 := (Kp.refl [tk] w).setCell (p := ⟨tk, 0, none⟩) (.inl (by simp)) (.int .u8 117)
  clear q0 f0 hT
  generalize w.setCell ⟨tk, 0, none⟩ (.int .u8 117) = w1 at *
  refine (duLow _ 1 1 w1 (by decide) (by omega) (by omega)).mono ?_
  rintro e w2 ⟨rfl, rfl⟩
  have q6 : w2.cell? ⟨tk, 6, none⟩ = some (.int .u64 u) := hT1.cell 6
  have f6 := hT1.frozen 6
  go_wp2_with fail
  go_ret2
  exact ⟨rfl, hT1.set_ 6 _, k1.setCell (p := ⟨tk, 6, none⟩) (.inl (by simp)) _⟩

set_option maxRecDepth 100000 in
set_option maxHeartbeats 4000000 in
theorem helpText (b : Int) (d s q r g c i k sk lf sl ll tk : Nat) (ph m : Int) (aE : Addr) (ty len u tag : Int) (str T l : List UInt8) (bs fl : Value) (tg : Bool) (w : World) (hb0 : 97 ≤ b) (hb1 : b < 120) (hbits : bits BinOp.and IntKind.u8 b 31 = ((k : Int) + 1)) (hk : k + 1 < 24) (hD : Blk w d 191 (decC s sk lf sl ph ll)) (h : StrG w s q r g c T aE i m) (hi : i + (k + 1) ≤ T.length) (hm : 0 ≤ m ∧ m ≤ 100000) (hl : (T.drop i).take (k + 1) = l)
    (hT : Blk w tk 153 (tokB ty len str bs u fl tg tag)) (hd : Dis d s q r g sk lf tk) :
    Calls Tryz.prog 124 #[.pointer (some ⟨d, 0, none⟩), .int .u8 b, .pointer (some ⟨tk, 0, none⟩)] w fun e w' => e = .returned (.tuple #[.bool true, .nilIface]) ∧
      Blk w' tk 153 (tokB 115 len l bs u fl tg tag) ∧ StrG w' s q r g c T aE (i + (k + 1)) (m + (k + 1)) ∧ Kp [tk, s, q, r] w w' := by
  have e246 : (b == 246) = false := by rw [beq_eq_false_iff_ne]; omega
  have e247 : (b == 247) = false := by rw [beq_eq_false_iff_ne]; omega
  have e244 : (b == 244) = false := by rw [beq_eq_false_iff_ne]; omega
  have e245 : (b == 245) = false := by rw [beq_eq_false_iff_ne]; omega
  have e249 : (b == 249) = false := by rw [beq_eq_false_iff_ne]; omega
  have e250 : (b == 250) = false := by rw [beq_eq_false_iff_ne]; omega
  have e251 : (b == 251) = false := by rw [beq_eq_false_iff_ne]; omega
  have e95 : (b == 95) = false := by rw [beq_eq_false_iff_ne]; omega
  have e127 : (b == 127) = false := by rw [beq_eq_false_iff_ne]; omega
  have e159 : (b == 159) = false := by rw [beq_eq_false_iff_ne]; omega
  have e191 : (b == 191) = false := by rw [beq_eq_false_iff_ne]; omega
  have r0 : decide (0 ≤ b) = true := by rw [decide_eq_true_eq]; omega
  have r1 : decide (b < 32) = false := by rw [decide_eq_false_iff_not]; omega
  have r2 : decide (32 ≤ b) = true := by rw [decide_eq_true_eq]; omega
  have r3 : decide (b < 64) = false := by rw [decide_eq_false_iff_not]; omega
  have r4 : decide (64 ≤ b) = true := by rw [decide_eq_true_eq]; omega
  have r5 : decide (b < 96) = false := by rw [decide_eq_false_iff_not]; omega
  have r6 : decide (96 ≤ b) = true := by rw [decide_eq_true_eq]; omega
  have r7 : decide (b < 128) = true := by rw [decide_eq_true_eq]; omega
  have q0 : w.cell? ⟨tk, 0, none⟩ = some (.int .u8 ty) := hT.cell 0
  have f0 := hT.frozen 0
  have hT1 : Blk (w.setCell ⟨tk, 0, none⟩ (.int .u8 115)) tk 153 (tokB 115 len str bs u fl tg tag) := hT.set_ 0 _
  have k1 := (Kp.refl [tk] w).setCell (p := ⟨tk, 0, none⟩) (.inl (by simp)) (.int .u8 115)
  have D1 := hD.kp k1 (by simp [hd.dd.2.2.2.2.2.2])
  have S1 := h.kp k1 (by simp [hd.tt.1.symm, hd.tt.2.1.symm, hd.tt.2.2.1.symm, hd.tt.2.2.2.symm, hd.ee.2.2.2])
  obtain ⟨X, hX⟩ : ∃ X, w.setCell ⟨tk, 0, none⟩ (.int .u8 115) = X := ⟨_, rfl⟩
  rw [hX] at hT1 k1 D1 S1
  have H := Lib.hid (And.intro (decStrG d s q r g c i k sk lf sl ll b m ph T l aE X hbits hk D1 S1 hi hm hl) (And.intro hT1 (And.intro k1 hd)))
  have HX := Lib.hid hX
  clear hT1 k1 D1 S1 hX hT hD h hi hm hl hd hbits hk hb0 hb1
  go_enter Tryz.func124, Tryz.ntmps124
  go_wp2_with fail
  rw [HX.out]
  refine H.out.1.mono ?_
  rintro e w2 ⟨rfl, S2, k2⟩
  have hd := H.out.2.2.2
  have T2 := H.out.2.1.kp k2 (by simp [hd.tt.1, hd.tt.2.1, hd.tt.2.2.1])
  have q2 : w2.cell? ⟨tk, 2, none⟩ = some (.string ⟨str.toArray⟩) := T2.cell 2
  have f2 := T2.frozen 2
  have HH := Lib.hid (And.intro T2 (And.intro S2 k2))
  clear T2 S2 k2 q0 f0 hd
  go_wp2_with fail
  go_ret2
  have hd := H.out.2.2.2
  have k3 : Kp [tk, s, q, r] w w2 := (H.out.2.2.1.weaken (l' := [tk, s, q, r]) (by simp)).step HH.out.2.2 (by simp)
  exact ⟨rfl, HH.out.1.set_ 2 _, HH.out.2.1.kp (L := [tk]) ((Kp.refl [tk] w2).setCell (p := ⟨tk, 2, none⟩) (.inl (by simp)) _) (by simp [hd.tt.1.symm, hd.tt.2.1.symm, hd.tt.2.2.1.symm, hd.tt.2.2.2.symm, hd.ee.2.2.2]), k3.setCell (p := ⟨tk, 2, none⟩) (.inl (by simp)) _⟩
end Go.Proofs.YtlafdmmjbkdkaaaGreatDoor

namespace Go.Proofs.YtlafdmmjbkdkaaaGreatDoor
open Go.RowKit

set_option maxRecDepth 100000 in
set_option maxHeartbeats 4000000 in
theorem help162 (d s sk lf tk : Nat) (ph : Int) (ty len u : Int) (str : List UInt8) (fl : Value) (ks ls : List Value) (w : World) (hD : Blk w d 191 (decC s sk lf 0 ph 0)) (hk : Blk w sk 189 ks.toArray) (hkl : ks.length = 10) (hl : Blk w lf 3 ls.toArray) (hll : ls.length = 10)
    (hT : Blk w tk 153 (tokC ty len str u fl)) (hn : tk ≠ d ∧ tk ≠ sk ∧ tk ≠ lf ∧ d ≠ sk ∧ d ≠ lf ∧ sk ≠ lf) :
    Calls Tryz.prog 124 #[.pointer (some ⟨d, 0, none⟩), .int .u8 162, .pointer (some ⟨tk, 0, none⟩)] w fun e w' => e = .returned (.tuple #[.bool false, .nilIface]) ∧
      Blk w' tk 153 (tokC 123 2 str u fl) ∧ Blk w' d 191 (decC s sk lf 1 5 1) ∧ Blk w' lf 3 (.int .i64 2 :: ls.drop 1).toArray ∧ Kp [tk, d, sk, lf] w w' := by
  obtain ⟨l0, lr, rfl⟩ : ∃ l0 lr, ls = l0 :: lr := by
    cases ls with
    | nil => simp at hll
    | cons a b => exact ⟨a, b, rfl⟩
  obtain ⟨i0, hi0, hz0, hz1, hz2⟩ := info_parts infoI
  obtain ⟨m1, m2, m3, m4, m5, m6⟩ := hn
  go_enter Tryz.func124, Tryz.ntmps124
  go_wp2_with fail
  refine (dl_of (.pointer (some ⟨d, 0, none⟩)) (.int .u8 162) 2 w (fun w' => w' = w) (by omega) (by omega) (duLow _ 162 2 w (by decide) (by omega) (by omega))).mono ?_
  rintro e w1 ⟨rfl, rfl⟩
  have q0 : w1.cell? ⟨tk, 0, none⟩ = some (.int .u8 ty) := hT.cell 0
  have q1 : w1.cell? ⟨tk, 1, none⟩ = some (.int .i64 len) := hT.cell 1
  have f0 := hT.frozen 0
  have f1 := hT.frozen 1
  have d10 : w1.cell? ⟨d, 10, none⟩ = some (.slice (some ⟨lf, 0, none⟩) 0 10) := hD.cell 10
  have g10 := hD.frozen 10
  have c0 : w1.cell? ⟨lf, 0, none⟩ = some l0 := hl.cell 0
  have g0 := hl.frozen 0
  have z1 := hD.lt
  have z2 := hl.lt
  have z3 := hT.lt
  have n1 : ¬ d = tk := fun h => m1 h.symm
  have n2 : ¬ lf = tk := fun h => m3 h.symm
  have n3 : ¬ lf = d := fun h => m5 h.symm
  go_wp2_with fail
  have kw : Kp [tk, d, lf] w1 (((((w1.setCell ⟨tk, 0, none⟩ (.int .u8 123)).setCell ⟨tk, 1, none⟩ (.int .i64 2)).setCell ⟨lf, 0, none⟩ (.int .i64 2)).setCell ⟨d, 10, none⟩ (.slice (some ⟨lf, 0, none⟩) 1 10)).alloc (.cells #[.int .i64 2] 3)) :=
    (((((Kp.refl [tk, d, lf] w1).setCell (p := ⟨tk, 0, none⟩) (.inl (by simp)) _).setCell (p := ⟨tk, 1, none⟩) (.inl (by simp)) _).setCell (p := ⟨lf, 0, none⟩) (.inl (by simp)) _).setCell (p := ⟨d, 10, none⟩) (.inl (by simp)) _).alloc _
  have tw : Blk (((((w1.setCell ⟨tk, 0, none⟩ (.int .u8 123)).setCell ⟨tk, 1, none⟩ (.int .i64 2)).setCell ⟨lf, 0, none⟩ (.int .i64 2)).setCell ⟨d, 10, none⟩ (.slice (some ⟨lf, 0, none⟩) 1 10)).alloc (.cells #[.int .i64 2] 3)) tk 153 (tokC 123 2 str u fl) :=
    ((((hT.set_ 0 _).set_ 1 _).far (p := ⟨lf, 0, none⟩) m3 _).far (p := ⟨d, 10, none⟩) m1 _).alloc _
  have dw : Blk (((((w1.setCell ⟨tk, 0, none⟩ (.int .u8 123)).setCell ⟨tk, 1, none⟩ (.int .i64 2)).setCell ⟨lf, 0, none⟩ (.int .i64 2)).setCell ⟨d, 10, none⟩ (.slice (some ⟨lf, 0, none⟩) 1 10)).alloc (.cells #[.int .i64 2] 3)) d 191 (decC s sk lf 0 ph 1) :=
    ((((hD.far (p := ⟨tk, 0, none⟩) n1 _).far (p := ⟨tk, 1, none⟩) n1 _).far (p := ⟨lf, 0, none⟩) m5 _).set_ 10 _).alloc _
  have lw : Blk (((((w1.setCell ⟨tk, 0, none⟩ (.int .u8 123)).setCell ⟨tk, 1, none⟩ (.int .i64 2)).setCell ⟨lf, 0, none⟩ (.int .i64 2)).setCell ⟨d, 10, none⟩ (.slice (some ⟨lf, 0, none⟩) 1 10)).alloc (.cells #[.int .i64 2] 3)) lf 3 (.int .i64 2 :: lr).toArray :=
    ((((hl.far (p := ⟨tk, 0, none⟩) n2 _).far (p := ⟨tk, 1, none⟩) n2 _).set_ 0 _).far (p := ⟨d, 10, none⟩) n3 _).alloc _
  have sw := hk.kp kw (by simp; omega)
  clear q0 q1 f0 f1 d10 g10 c0 g0 hD hT hl hk
  generalize (((((w1.setCell ⟨tk, 0, none⟩ (.int .u8 123)).setCell ⟨tk, 1, none⟩ (.int .i64 2)).setCell ⟨lf, 0, none⟩ (.int .i64 2)).setCell ⟨d, 10, none⟩ (.slice (some ⟨lf, 0, none⟩) 1 10)).alloc (.cells #[.int .i64 2] 3)) = w2 at *
  refine (push_any d s sk lf 1 ph 5 ks w2 dw sw hkl m4).mono ?_
  rintro e w3 ⟨rfl, D3, k3⟩
  have T3 := tw.kp k3 (by simp; omega)
  have L3 := lw.kp k3 (by simp; omega)
  have k13 : Kp [tk, d, sk, lf] w1 w3 := (kw.weaken (l' := [tk, d, sk, lf]) (by intro i hi; left; simp at hi; simp; omega)).step k3 (by intro i hi; left; simp at hi; simp; omega)
  have HH := Lib.hid (And.intro T3 (And.intro D3 (And.intro L3 k13)))
  clear T3 D3 L3 k13 kw tw dw lw sw k3
  go_wp2_with fail
  go_ret2
  exact ⟨rfl, HH.out.1, HH.out.2.1, HH.out.2.2.1, HH.out.2.2.2⟩
end Go.Proofs.YtlafdmmjbkdkaaaGreatDoor

namespace Go.Proofs.YtlafdmmjbkdkaaaGreatDoor
open Go.RowKit

set_option maxRecDepth 100000 in
set_option maxHeartbeats 4000000 in
theorem stValG (T : List UInt8) (d s q r g c sk lf tk : Nat) (m : Int) (aE : Addr) (ty len u : Int) (str : List UInt8) (fl : Value) (ks ls : List Value) (w : World) (hd : Dis d s q r g sk lf tk) (hD : Blk w d 191 (decC s sk lf 0 0 0)) (hk : Blk w sk 189 ks.toArray) (hkl : ks.length = 10) (hl : Blk w lf 3 ls.toArray) (hll : ls.length = 10)
    (hT : Blk w tk 153 (tokC ty len str u fl)) (hS : StrG w s q r g c T aE 0 m) (hi0 : 0 < T.length) (hz : ((T[0]'hi0).toNat : Int) = 162) (hm : 0 ≤ m ∧ m ≤ 100) :
    Calls Tryz.prog 95 #[.pointer (some ⟨d, 0, none⟩), .pointer (some ⟨tk, 0, none⟩)] w fun e w' => e = .returned (.tuple #[.bool false, .nilIface]) ∧
      Blk w' tk 153 (tokC 123 2 str u fl) ∧ Blk w' d 191 (decC s sk lf 1 5 1) ∧ Blk w' lf 3 (.int .i64 2 :: ls.drop 1).toArray ∧ StrG w' s q r g c T aE 1 (m + 1) ∧ Kp [tk, d, sk, lf, s, q, r] w w' := by
  have hmr := srn_m s
  have HM1 : 0 ≤ m ∧ m ≤ 1000000 := by omega
  have HM := hm
  have HM8 : m + 1 + 7 = m + 8 := by omega
  obtain ⟨⟨x1, x2, x3, x4, x5, x6, x7⟩, ⟨y1, y2, y3, y4, y5, y6⟩, ⟨z1, z2, z3, z4, z5⟩, ⟨t1, t2, t3, t4⟩, ⟨e1, e2, e3, e4⟩⟩ := hd
  obtain ⟨n1, n2, n3, n4, n5, n6⟩ := hS.n
  obtain ⟨j1, j2, j3⟩ := hS.e
  have q7 : w.cell? ⟨d, 7, none⟩ = some (.iface 218 (.pointer (some ⟨s, 0, none⟩))) := hD.cell 7
  have HR := Lib.hid (readn1_strG s q r g c 0 m 162 T aE w hS hi0 HM1 hz)
  have HD := Lib.hid (And.intro hD (And.intro hk (And.intro hl hT)))
  clear hD hk hl hT hS hz
  go_enter Tryz.func95, Tryz.ntmps95
  go_wp2_with fail
  refine HR.out.mono ?_
  rintro e w1 ⟨rfl, S1, k1⟩
  have D1 := HD.out.1.kp k1 (by simp [x1, x2, x3])
  have K1 := HD.out.2.1.kp k1 (by simp [y1, y2, y3])
  have L1 := HD.out.2.2.1.kp k1 (by simp [z1, z2, z3])
  have T1 := HD.out.2.2.2.kp k1 (by simp [t1, t2, t3])
  have t8 : w1.cell? ⟨tk, 8, none⟩ = some (.bool false) := T1.cell 8
  have f8 := T1.frozen 8
  have HW := Lib.hid k1
  clear q7 k1
  go_wp2_with fail
  have k2 := (Kp.refl [tk] w1).setCell (p := ⟨tk, 8, none⟩) (.inl (by simp)) (.bool false)
  have T2 : Blk (w1.setCell ⟨tk, 8, none⟩ (.bool false)) tk 153 (tokC ty len str u fl) := T1.set_ 8 _
  have D2 := D1.kp k2 (by simp [x7])
  have K2 := K1.kp k2 (by simp [y6])
  have L2 := L1.kp k2 (by simp [z5])
  have S2 := S1.kp k2 (by simp [e4, t1.symm, t2.symm, t3.symm, t4.symm])
  clear t8 f8 T1 D1 K1 L1 S1
  generalize w1.setCell ⟨tk, 8, none⟩ (.bool false) = w2 at *
  have hh := help162 d s sk lf tk 0 ty len u str fl ks ls w2 D2 K2 hkl L2 hll T2 (by simp [x5, x6, y5, x7.symm, y6.symm, z5.symm])
  refine hh.mono ?_
  rintro e w3 ⟨rfl, T3, D3, L3, k3⟩
  have S3 := S2.kp k3 (by simp [e1, e2, e3, e4, x1.symm, x2.symm, x3.symm, x4.symm, y1.symm, y2.symm, y3.symm, y4.symm, z1.symm, z2.symm, z3.symm, z4.symm, t1.symm, t2.symm, t3.symm, t4.symm])
  have k13 : Kp [tk, d, sk, lf, s, q, r] w w3 := ((HW.out.weaken (l' := [tk, d, sk, lf, s, q, r]) (by simp)).step k2 (by simp)).step k3 (by simp)
  have HH := Lib.hid (And.intro T3 (And.intro D3 (And.intro L3 (And.intro S3 k13))))
  clear T3 D3 L3 S3 k13 hh T2 D2 K2 L2 S2 k3 k2
  go_wp2_with fail
  go_ret2
  exact ⟨rfl, HH.out⟩

end Go.Proofs.YtlafdmmjbkdkaaaGreatDoor

namespace Go.Proofs.YtlafdmmjbkdkaaaGreatDoor
open Go.RowKit

set_option maxRecDepth 100000 in
set_option maxHeartbeats 4000000 in
theorem stKeyG (T l : List UInt8) (b n tag : Int) (bs : Value) (i k : Nat) (d s q r g c sk lf tk : Nat) (m : Int) (aE : Addr) (ty len u : Int) (str : List UInt8) (fl : Value) (lr : List Value) (w : World) (hd : Dis d s q r g sk lf tk) (hD : Blk w d 191 (decC s sk lf 1 5 1)) (hl : Blk w lf 3 (.int .i64 (n + 1) :: lr).toArray) (hn0 : 0 ≤ n) (hn1 : n ≤ 1000)
    (hT : Blk w tk 153 (tokB ty len str bs u fl false tag)) (hS : StrG w s q r g c T aE i m) (hi : i < T.length) (hz : ((T[i]'hi).toNat : Int) = b) (hb0 : 97 ≤ b) (hb1 : b < 120) (hbits : bits BinOp.and IntKind.u8 b 31 = ((k : Int) + 1)) (hk : k + 1 < 24) (hik : i + 1 + (k + 1) ≤ T.length) (htl : (T.drop (i + 1)).take (k + 1) = l) (hm : 0 ≤ m ∧ m ≤ 50000) :
    Calls Tryz.prog 100 #[.pointer (some ⟨d, 0, none⟩), .pointer (some ⟨tk, 0, none⟩)] w fun e w' => e = .returned (.tuple #[.bool false, .nilIface]) ∧
      Blk w' tk 153 (tokB 115 len l bs u fl false tag) ∧ Blk w' d 191 (decC s sk lf 1 6 1) ∧ Blk w' lf 3 (.int .i64 n :: lr).toArray ∧ StrG w' s q r g c T aE (i + 1 + (k + 1)) (m + 1 + (k + 1)) ∧ Kp [tk, d, lf, s, q, r] w w' := by
  have HM2 : 0 ≤ m + 1 ∧ m + 1 ≤ 100000 := by omega
  have hne : ((n + 1) == 0) = false := by rw [beq_eq_false_iff_ne]; omega
  have hw : IntKind.i64.wrap n = n := by rw [IntKind.wrap_i64]; omega
  have hd0 := Lib.hid hd
  have HK := Lib.hid (And.intro hz (And.intro hb0 (And.intro hb1 (And.intro hbits (And.intro hk (And.intro hik htl))))))
  clear hz hb0 hb1 hbits hk hik htl
  have hmr := srn_m s
  have HM1 : 0 ≤ m ∧ m ≤ 1000000 := by omega
  obtain ⟨⟨x1, x2, x3, x4, x5, x6, x7⟩, ⟨y1, y2, y3, y4, y5, y6⟩, ⟨z1, z2, z3, z4, z5⟩, ⟨t1, t2, t3, t4⟩, ⟨e1, e2, e3, e4⟩⟩ := hd
  obtain ⟨n1, n2, n3, n4, n5, n6⟩ := hS.n
  obtain ⟨j1, j2, j3⟩ := hS.e
  have q10 : w.cell? ⟨d, 10, none⟩ = some (.slice (some ⟨lf, 0, none⟩) 1 10) := hD.cell 10
  have c0 : w.cell? ⟨lf, 0, none⟩ = some (.int .i64 (n + 1)) := hl.cell 0
  have f0 := hl.frozen 0
  have q7 : w.cell? ⟨d, 7, none⟩ = some (.iface 218 (.pointer (some ⟨s, 0, none⟩))) := hD.cell 7
  have nld : ¬ lf = d := fun h => x6 h.symm
  have HD := Lib.hid (And.intro hD (And.intro hl (And.intro hT hS)))
  clear hD hl hT hS
  go_enter Tryz.func100, Tryz.ntmps100
  go_wp2_with fail
  have k0 := (Kp.refl [lf] w).setCell (p := ⟨lf, 0, none⟩) (.inl (by simp)) (.int .i64 n)
  have L0 : Blk (w.setCell ⟨lf, 0, none⟩ (.int .i64 n)) lf 3 (.int .i64 n :: lr).toArray := HD.out.2.1.set_ 0 _
  have D0 := HD.out.1.kp k0 (by simp [x6])
  have T0 := HD.out.2.2.1.kp k0 (by simp [z5.symm])
  have S0 := HD.out.2.2.2.kp k0 (by simp [e3, z1.symm, z2.symm, z3.symm, z4.symm])
  clear q10 c0 f0 q7
  generalize w.setCell ⟨lf, 0, none⟩ (.int .i64 n) = w0 at *
  refine (readn1_strG s q r g c i m b T aE w0 S0 hi HM1 HK.out.1).mono ?_
  rintro e w1 ⟨rfl, S1, k1⟩
  have D1 := D0.kp k1 (by simp [x1, x2, x3])
  have L1 := L0.kp k1 (by simp [z1, z2, z3])
  have T1 := T0.kp k1 (by simp [t1, t2, t3])
  have t8 : w1.cell? ⟨tk, 8, none⟩ = some (.bool false) := T1.cell 8
  have f8 := T1.frozen 8
  have d9 : w1.cell? ⟨d, 9, none⟩ = some (.int .u8 5) := D1.cell 9
  have f9 := D1.frozen 9
  have kk : Kp [tk, d, lf, s, q, r] w w1 := (k0.weaken (l' := [tk, d, lf, s, q, r]) (by simp)).step k1 (by simp)
  have HW := Lib.hid kk
  clear k0 L0 D0 T0 S0 k1 kk
  go_wp2_with fail
  have ndt : d ≠ tk := x7
  have k2 := ((Kp.refl [tk, d] w1).setCell (p := ⟨d, 9, none⟩) (.inl (by simp)) (.int .u8 6)).setCell (p := ⟨tk, 8, none⟩) (.inl (by simp)) (.bool false)
  have T2 : Blk ((w1.setCell ⟨d, 9, none⟩ (.int .u8 6)).setCell ⟨tk, 8, none⟩ (.bool false)) tk 153 (tokB ty len str bs u fl false tag) := (T1.far (p := ⟨d, 9, none⟩) (fun h => ndt h.symm) _).set_ 8 _
  have D2 : Blk ((w1.setCell ⟨d, 9, none⟩ (.int .u8 6)).setCell ⟨tk, 8, none⟩ (.bool false)) d 191 (decC s sk lf 1 6 1) := (D1.set_ 9 _).far (p := ⟨tk, 8, none⟩) ndt _
  have L2 := L1.kp k2 (by simp [z5, x6.symm])
  have S2 := S1.kp k2 (by simp [e1, e4, x1.symm, x2.symm, x3.symm, x4.symm, t1.symm, t2.symm, t3.symm, t4.symm])
  clear t8 f8 d9 f9 T1 D1 L1 S1
  generalize (w1.setCell ⟨d, 9, none⟩ (.int .u8 6)).setCell ⟨tk, 8, none⟩ (.bool false) = w2 at *
  have hh := helpText b d s q r g c (i + 1) k sk lf 1 1 tk 6 (m + 1) aE ty len u tag str T l bs fl false w2 HK.out.2.1 HK.out.2.2.1 HK.out.2.2.2.1 HK.out.2.2.2.2.1 D2 S2 HK.out.2.2.2.2.2.1 HM2 HK.out.2.2.2.2.2.2 T2 hd0.out
  refine hh.mono ?_
  rintro e w3 ⟨rfl, T3, S3, k3⟩
  have D3 := D2.kp k3 (by simp [x1, x2, x3, x7])
  have L3 := L2.kp k3 (by simp [z1, z2, z3, z5])
  have k13 : Kp [tk, d, lf, s, q, r] w w3 := (HW.out.step k2 (by simp)).step k3 (by simp)
  have HH := Lib.hid (And.intro T3 (And.intro D3 (And.intro L3 (And.intro S3 k13))))
  clear T3 D3 L3 S3 k13 hh T2 D2 L2 S2 k3 k2
  go_wp2_with fail
  go_ret2
  exact ⟨rfl, HH.out⟩

end Go.Proofs.YtlafdmmjbkdkaaaGreatDoor

namespace Go.Proofs.YtlafdmmjbkdkaaaGreatDoor
open Go.RowKit

set_option maxRecDepth 100000 in
set_option maxHeartbeats 4000000 in
theorem stMapArr (T : List UInt8) (b n m2 : Int) (i j : Nat) (d s q r g c sk lf tk : Nat) (m : Int) (aE : Addr) (ty len u : Int) (str : List UInt8) (fl k0 k1 l0 l1 : Value) (kr lr : List Value) (w : World) (hb0 : 128 ≤ b) (hb1 : b < 159) (hd : Dis d s q r g sk lf tk) (hD : Blk w d 191 (decC s sk lf 1 6 1)) (hk : Blk w sk 189 (k0 :: k1 :: kr).toArray) (hl : Blk w lf 3 (l0 :: l1 :: lr).toArray)
    (hT : Blk w tk 153 (tokC ty len str u fl)) (hS : StrG w s q r g c T aE i m) (hi : i < T.length) (hz : ((T[i]'hi).toNat : Int) = b) (hm : 0 ≤ m ∧ m ≤ 50000)
    (HL : ∀ W, StrG W s q r g c T aE (i + 1) (m + 1) → Blk W d 191 (decC s sk lf 1 5 1) → Calls Tryz.prog 141 #[.pointer (some ⟨d, 0, none⟩), .int .u8 b] W fun e w' => e = .returned (.tuple #[.int .i64 n, .nilIface]) ∧ StrG w' s q r g c T aE j m2 ∧ Kp [s, q, r] W w') :
    Calls Tryz.prog 101 #[.pointer (some ⟨d, 0, none⟩), .pointer (some ⟨tk, 0, none⟩)] w fun e w' => e = .returned (.tuple #[.bool false, .nilIface]) ∧
      Blk w' tk 153 (tokC 91 n str u fl) ∧ Blk w' d 191 (decC s sk lf 2 4 2) ∧ Blk w' lf 3 (l0 :: .int .i64 n :: lr).toArray ∧ Blk w' sk 189 (k0 :: .int .u8 5 :: kr).toArray ∧ StrG w' s q r g c T aE j m2 ∧ Kp [tk, d, sk, lf, s, q, r] w w' := by
  have hmr := srn_m s
  have HM1 : 0 ≤ m ∧ m ≤ 1000000 := by omega
  have hd0 := Lib.hid hd
  have HK := Lib.hid (And.intro hb0 (And.intro hb1 HL))
  clear hb0 hb1 HL
  obtain ⟨⟨x1, x2, x3, x4, x5, x6, x7⟩, ⟨y1, y2, y3, y4, y5, y6⟩, ⟨z1, z2, z3, z4, z5⟩, ⟨t1, t2, t3, t4⟩, ⟨e1, e2, e3, e4⟩⟩ := hd
  obtain ⟨n1, n2, n3, n4, n5, n6⟩ := hS.n
  obtain ⟨j1, j2, j3⟩ := hS.e
  have q7 : w.cell? ⟨d, 7, none⟩ = some (.iface 218 (.pointer (some ⟨s, 0, none⟩))) := hD.cell 7
  have HR := Lib.hid (readn1_strG s q r g c i m b T aE w hS hi HM1 hz)
  have HD := Lib.hid (And.intro hD (And.intro hk (And.intro hl hT)))
  clear hD hk hl hT hS hz
  go_enter Tryz.func101, Tryz.ntmps101
  go_wp2_with fail
  refine HR.out.mono ?_
  rintro e w1 ⟨rfl, S1, k1⟩
  have D1 := HD.out.1.kp k1 (by simp [x1, x2, x3])
  have K1 := HD.out.2.1.kp k1 (by simp [y1, y2, y3])
  have L1 := HD.out.2.2.1.kp k1 (by simp [z1, z2, z3])
  have T1 := HD.out.2.2.2.kp k1 (by simp [t1, t2, t3])
  have t8 : w1.cell? ⟨tk, 8, none⟩ = some (.bool false) := T1.cell 8
  have f8 := T1.frozen 8
  have d9 : w1.cell? ⟨d, 9, none⟩ = some (.int .u8 6) := D1.cell 9
  have f9 := D1.frozen 9
  have HW := Lib.hid k1
  clear q7 k1
  go_wp2_with fail
  have ndt : d ≠ tk := x7
  have k2 := ((Kp.refl [tk, d] w1).setCell (p := ⟨d, 9, none⟩) (.inl (by simp)) (.int .u8 5)).setCell (p := ⟨tk, 8, none⟩) (.inl (by simp)) (.bool false)
  have T2 : Blk ((w1.setCell ⟨d, 9, none⟩ (.int .u8 5)).setCell ⟨tk, 8, none⟩ (.bool false)) tk 153 (tokC ty len str u fl) := (T1.far (p := ⟨d, 9, none⟩) (fun h => ndt h.symm) _).set_ 8 _
  have D2 : Blk ((w1.setCell ⟨d, 9, none⟩ (.int .u8 5)).setCell ⟨tk, 8, none⟩ (.bool false)) d 191 (decC s sk lf 1 5 1) := (D1.set_ 9 _).far (p := ⟨tk, 8, none⟩) ndt _
  have K2 := K1.kp k2 (by simp [y6, x5.symm])
  have L2 := L1.kp k2 (by simp [z5, x6.symm])
  have S2 := S1.kp k2 (by simp [e1, e4, x1.symm, x2.symm, x3.symm, x4.symm, t1.symm, t2.symm, t3.symm, t4.symm])
  clear t8 f8 d9 f9 T1 D1 K1 L1 S1
  generalize (w1.setCell ⟨d, 9, none⟩ (.int .u8 5)).setCell ⟨tk, 8, none⟩ (.bool false) = w2 at *
  have hh := helpArr d s q r g c j sk lf tk b n m2 ty len u str T fl k0 k1 l0 l1 kr lr aE w2 HK.out.1 HK.out.2.1 hd0.out D2 K2 L2 T2 (HK.out.2.2 w2 S2 D2)
  refine hh.mono ?_
  rintro e w3 ⟨rfl, T3, D3, L3, K3, S3, k3⟩
  have k13 : Kp [tk, d, sk, lf, s, q, r] w w3 := ((HW.out.weaken (l' := [tk, d, sk, lf, s, q, r]) (by simp)).step k2 (by simp)).step k3 (by simp)
  have HH := Lib.hid (And.intro T3 (And.intro D3 (And.intro L3 (And.intro K3 (And.intro S3 k13)))))
  clear T3 D3 L3 K3 S3 k13 hh T2 D2 K2 L2 S2 k3 k2
  go_wp2_with fail
  go_ret2
  exact ⟨rfl, HH.out⟩

set_option maxRecDepth 100000 in
set_option maxHeartbeats 4000000 in
theorem stMap1 (T : List UInt8) (i : Nat) (d s q r g c sk lf tk : Nat) (m : Int) (aE : Addr) (ty len u : Int) (str : List UInt8) (fl : Value) (w : World) (hd : Dis d s q r g sk lf tk) (hD : Blk w d 191 (decC s sk lf 1 6 1))
    (hT : Blk w tk 153 (tokC ty len str u fl)) (hS : StrG w s q r g c T aE i m) (hi : i < T.length) (hz : ((T[i]'hi).toNat : Int) = 1) (hm : 0 ≤ m ∧ m ≤ 100000) :
    Calls Tryz.prog 101 #[.pointer (some ⟨d, 0, none⟩), .pointer (some ⟨tk, 0, none⟩)] w fun e w' => e = .returned (.tuple #[.bool false, .nilIface]) ∧
      Blk w' tk 153 (tokC 117 len str 1 fl) ∧ Blk w' d 191 (decC s sk lf 1 5 1) ∧ Kp [tk, d, s, q, r] w w' := by
  have hmr := srn_m s
  have HM1 : 0 ≤ m ∧ m ≤ 1000000 := by omega
  obtain ⟨⟨x1, x2, x3, x4, x5, x6, x7⟩, ⟨y1, y2, y3, y4, y5, y6⟩, ⟨z1, z2, z3, z4, z5⟩, ⟨t1, t2, t3, t4⟩, ⟨e1, e2, e3, e4⟩⟩ := hd
  obtain ⟨n1, n2, n3, n4, n5, n6⟩ := hS.n
  obtain ⟨j1, j2, j3⟩ := hS.e
  have q7 : w.cell? ⟨d, 7, none⟩ = some (.iface 218 (.pointer (some ⟨s, 0, none⟩))) := hD.cell 7
  have HR := Lib.hid (readn1_strG s q r g c i m 1 T aE w hS hi HM1 hz)
  have HD := Lib.hid (And.intro hD hT)
  clear hD hT hS hz
  go_enter Tryz.func101, Tryz.ntmps101
  go_wp2_with fail
  refine HR.out.mono ?_
  rintro e w1 ⟨rfl, S1, k1⟩
  have D1 := HD.out.1.kp k1 (by simp [x1, x2, x3])
  have T1 := HD.out.2.kp k1 (by simp [t1, t2, t3])
  have t8 : w1.cell? ⟨tk, 8, none⟩ = some (.bool false) := T1.cell 8
  have f8 := T1.frozen 8
  have d9 : w1.cell? ⟨d, 9, none⟩ = some (.int .u8 6) := D1.cell 9
  have f9 := D1.frozen 9
  have HW := Lib.hid k1
  clear q7 k1 S1
  go_wp2_with fail
  have ndt : d ≠ tk := x7
  have k2 := ((Kp.refl [tk, d] w1).setCell (p := ⟨d, 9, none⟩) (.inl (by simp)) (.int .u8 5)).setCell (p := ⟨tk, 8, none⟩) (.inl (by simp)) (.bool false)
  have T2 : Blk ((w1.setCell ⟨d, 9, none⟩ (.int .u8 5)).setCell ⟨tk, 8, none⟩ (.bool false)) tk 153 (tokC ty len str u fl) := (T1.far (p := ⟨d, 9, none⟩) (fun h => ndt h.symm) _).set_ 8 _
  have D2 : Blk ((w1.setCell ⟨d, 9, none⟩ (.int .u8 5)).setCell ⟨tk, 8, none⟩ (.bool false)) d 191 (decC s sk lf 1 5 1) := (D1.set_ 9 _).far (p := ⟨tk, 8, none⟩) ndt _
  clear t8 f8 d9 f9 T1 D1
  generalize (w1.setCell ⟨d, 9, none⟩ (.int .u8 5)).setCell ⟨tk, 8, none⟩ (.bool false) = w2 at *
  have hh := help1 d tk ty len u 0 str (.slice none 0 0) fl false w2 T2
  refine hh.mono ?_
  rintro e w3 ⟨rfl, T3, k3⟩
  have D3 := D2.kp k3 (by simp [x7])
  have k13 : Kp [tk, d, s, q, r] w w3 := ((HW.out.weaken (l' := [tk, d, s, q, r]) (by simp)).step k2 (by simp)).step k3 (by simp)
  have T3' : Blk w3 tk 153 (tokC 117 len str 1 fl) := T3
  have HH := Lib.hid (And.intro T3' (And.intro D3 k13))
  clear T3 T3' D3 k13 hh T2 D2 k3 k2
  go_wp2_with fail
  go_ret2
  exact ⟨rfl, HH.out⟩
end Go.Proofs.YtlafdmmjbkdkaaaGreatDoor

namespace Go.Proofs.YtlafdmmjbkdkaaaGreatDoor
open Go.RowKit

/-- A length behind a head: b is the head, jj says how many bytes stand behind it. -/
def LenH (T : List UInt8) (i : Nat) (b : Int) (n jj : Nat) : Prop :=
  (jj = 0 ∧ n < 24 ∧ bits BinOp.and IntKind.u8 b 31 = n) ∨ (jj = 1 ∧ n < 256 ∧ bits BinOp.and IntKind.u8 b 31 = 24 ∧ ∃ hi : i < T.length, (T[i]'hi).toNat = n)

theorem decLenH (d s q r g c i sk lf sl ll n jj : Nat) (b m : Int) (ph : Int) (T : List UInt8) (aE : Addr) (w : World) (hl : LenH T i b n jj) (hm : 0 ≤ m ∧ m ≤ 100000) (hd : d ≠ s ∧ d ≠ q ∧ d ≠ r)
    (h : StrG w s q r g c T aE i m) (hD : Blk w d 191 (decC s sk lf sl ph ll)) :
    Calls Tryz.prog 141 #[.pointer (some ⟨d, 0, none⟩), .int .u8 b] w fun e w' => e = .returned (.tuple #[.int .i64 (n : Int), .nilIface]) ∧ StrG w' s q r g c T aE (i + jj) (m + jj) ∧ Kp [s, q, r] w w' := by
  rcases hl with ⟨rfl, hn, hb⟩ | ⟨rfl, hn, hb, hi, hz⟩
  · refine dl_of _ _ (n : Int) w (fun w' => StrG w' s q r g c T aE (i + 0) (m + (0 : Nat)) ∧ Kp [s, q, r] w w') (by omega) (by omega) ?_
    refine (duLow _ b (n : Int) w hb (by omega) (by omega)).mono ?_
    rintro e w' ⟨rfl, rfl⟩
    refine ⟨rfl, ?_, Kp.refl _ _⟩
    have e0 : m + ((0 : Nat) : Int) = m := by omega
    rw [e0]
    exact h
  · refine dl_of _ _ (n : Int) w (fun w' => StrG w' s q r g c T aE (i + 1) (m + (1 : Nat)) ∧ Kp [s, q, r] w w') (by omega) (by omega) ?_
    exact duOne d s q r g c i sk lf sl ll b m (n : Int) ph T aE w hb hD hd h hi hm (by omega) (by omega) (by omega)

/-- A head of a kind (64: bytes; 128: an array) and a length below 256. -/
def hdL (k n : Nat) : List UInt8 := if n < 24 then [UInt8.ofNat (k + n)] else [UInt8.ofNat (k + 24), UInt8.ofNat n]
/-- How many bytes stand behind such a head. -/
def hdJ (n : Nat) : Nat := if n < 24 then 0 else 1
/-- Its first byte. -/
def hdB (k n : Nat) : Nat := if n < 24 then k + n else k + 24
theorem hdL_len (k n : Nat) : (hdL k n).length = 1 + hdJ n := by unfold hdL hdJ; split <;> simp
theorem hdJ_le (n : Nat) : hdJ n ≤ 1 := by unfold hdJ; split <;> omega

/-- A link. -/
def lkB (b : List UInt8) : List UInt8 := 216 :: 42 :: (hdL 64 (b.length + 1) ++ 0 :: b)
/-- Links one behind the other. -/
def lksB (M : List (List UInt8)) : List UInt8 := (M.map lkB).flatten
/-- The map of a header of version 1. -/
def hdT (M : List (List UInt8)) : List UInt8 := 162 :: 101 :: 114 :: 111 :: 111 :: 116 :: 115 :: (hdL 128 M.length ++ (lksB M ++ [103, 118, 101, 114, 115, 105, 111, 110, 1]))

theorem at_drop {T A : List UInt8} {i : Nat} {x : UInt8} (h : T.drop i = x :: A) : ∃ hi : i < T.length, T[i]'hi = x := by
  have hlt : i < T.length := by
    rcases Nat.lt_or_ge i T.length with h1 | h1
    · exact h1
    · rw [List.drop_eq_nil_of_le h1] at h; cases h
  refine ⟨hlt, ?_⟩
  rw [List.drop_eq_getElem_cons hlt] at h
  exact (List.cons.inj h).1
theorem drop_tail {T A : List UInt8} {i : Nat} {x : UInt8} (h : T.drop i = x :: A) : T.drop (i + 1) = A := by
  rw [← List.drop_drop, h]; rfl
theorem drop_app {T A B : List UInt8} {i : Nat} (h : T.drop i = A ++ B) : T.drop (i + A.length) = B := by
  rw [← List.drop_drop, h, List.drop_left]
theorem drop_len {T A : List UInt8} {i : Nat} (h : T.drop i = A) (hA : A ≠ []) : i + A.length = T.length := by
  have := congrArg List.length h
  rw [List.length_drop] at this
  have : A.length ≠ 0 := by simpa using hA
  omega

theorem bits_low : ∀ k : Nat, k = 64 ∨ k = 128 → ∀ n : Nat, n < 24 → bits BinOp.and IntKind.u8 ((k + n : Nat) : Int) 31 = n := by
  rintro k (rfl | rfl)
  · exact low_bytes
  · exact low_arr

/-- What stands at a head. -/
theorem hd_at {T B : List UInt8} {i k n : Nat} (hk : k = 64 ∨ k = 128) (hn : n < 256) (h : T.drop i = hdL k n ++ B) :
    (∃ hi : i < T.length, (T[i]'hi).toNat = hdB k n) ∧ LenH T (i + 1) (hdB k n) n (hdJ n) ∧ T.drop (i + 1 + hdJ n) = B := by
  have h2 := drop_app h
  rw [hdL_len] at h2
  refine ⟨?_, ?_, by rw [← h2]; congr 1; omega⟩
  · unfold hdL at h
    split at h
    · obtain ⟨hi, hx⟩ := at_drop h
      refine ⟨hi, ?_⟩
      rw [hx]
      unfold hdB
      rw [if_pos (by assumption)]
      simp
      omega
    · obtain ⟨hi, hx⟩ := at_drop h
      refine ⟨hi, ?_⟩
      rw [hx]
      unfold hdB
      rw [if_neg (by assumption)]
      simp
      omega
  · unfold hdL at h
    split at h
    · rename_i hlt
      left
      unfold hdJ hdB
      rw [if_pos hlt, if_pos hlt]
      exact ⟨rfl, hlt, bits_low k hk n hlt⟩
    · rename_i hge
      right
      obtain ⟨hi, hx⟩ := at_drop (drop_tail h)
      unfold hdJ hdB
      rw [if_neg hge, if_neg hge]
      refine ⟨rfl, hn, ?_, hi, ?_⟩
      · rcases hk with rfl | rfl <;> decide
      · rw [hx]
        simp
        omega

theorem lksB_cons (b : List UInt8) (M : List (List UInt8)) : lksB (b :: M) = lkB b ++ lksB M := by simp [lksB]
theorem lksB_append (A B : List (List UInt8)) : lksB (A ++ B) = lksB A ++ lksB B := by unfold lksB; rw [List.map_append, List.flatten_append]
theorem lksB_take (M : List (List UInt8)) (k : Nat) (hk : k < M.length) : lksB (M.take (k + 1)) = lksB (M.take k) ++ lkB M[k] := by
  rw [List.take_succ_eq_append_getElem hk, lksB_append]
  simp [lksB]
theorem lksB_split (M : List (List UInt8)) (k : Nat) (hk : k < M.length) : lksB M = lksB (M.take k) ++ (lkB M[k] ++ lksB (M.drop (k + 1))) := by
  have h : M = M.take k ++ (M[k] :: M.drop (k + 1)) := by rw [← List.drop_eq_getElem_cons hk, List.take_append_drop]
  rw [← lksB_cons, ← lksB_append, ← h]
theorem lkB_len (b : List UInt8) : (lkB b).length = 4 + hdJ (b.length + 1) + b.length := by
  unfold lkB
  simp only [List.length_cons, List.length_append, hdL_len]
  omega
theorem lksB_le (M : List (List UInt8)) (B : Nat) (h : ∀ b ∈ M, b.length ≤ B) : (lksB M).length ≤ M.length * (B + 5) := by
  induction M with
  | nil => simp [lksB]
  | cons b M ih =>
    rw [lksB_cons, List.length_append, lkB_len, List.length_cons, Nat.add_mul]
    have h1 := h b (by simp)
    have h2 := ih fun x hx => h x (by simp [hx])
    have h3 := hdJ_le (b.length + 1)
    omega

/-- The k-th of the links that stand at i0. -/
theorem drop_link {T R : List UInt8} {M : List (List UInt8)} {i0 : Nat} (k : Nat) (h : T.drop i0 = lksB M ++ R) (hk : k < M.length) :
    T.drop (i0 + (lksB (M.take k)).length) = 216 :: 42 :: (hdL 64 (M[k].length + 1) ++ (0 :: (M[k] ++ (lksB (M.drop (k + 1)) ++ R)))) := by
  have h1 := lksB_split M k hk
  rw [h1, List.append_assoc] at h
  rw [drop_app h]
  simp [lkB]

/-- What stands at the k-th link. -/
structure LkAt (T b : List UInt8) (i j : Nat) : Prop where
  hi : i + 1 + 1 < T.length
  h216 : ((T[i]'(by omega)).toNat : Int) = 216
  h42 : ((T[i + 1]'(by omega)).toNat : Int) = 42
  hb : ((T[i + 1 + 1]'hi).toNat : Int) = ((hdB 64 (b.length + 1) : Nat) : Int)
  hl : LenH T (i + 1 + 1 + 1) ((hdB 64 (b.length + 1) : Nat) : Int) (b.length + 1) (hdJ (b.length + 1))
  hj : i + 1 + 1 + 1 + hdJ (b.length + 1) + (b.length + 1) = j
  hjt : j ≤ T.length
  ht : (T.drop (i + 1 + 1 + 1 + hdJ (b.length + 1))).take (b.length + 1) = 0 :: b

theorem lk_at {T R b : List UInt8} {i : Nat} (hb : b.length < 255) (h : T.drop i = 216 :: 42 :: (hdL 64 (b.length + 1) ++ (0 :: (b ++ R)))) : LkAt T b i (i + (lkB b).length) := by
  obtain ⟨i1, e1⟩ := at_drop h
  have h2 := drop_tail h
  obtain ⟨i2, e2⟩ := at_drop h2
  have h3 := drop_tail h2
  obtain ⟨⟨i3, e3⟩, e4, e5⟩ := hd_at (k := 64) (.inl rfl) (by omega) h3
  have hll := lkB_len b
  have hlen : (b.length + 1) ≤ (T.drop (i + 1 + 1 + 1 + hdJ (b.length + 1))).length := by rw [e5]; simp
  rw [List.length_drop] at hlen
  refine ⟨i3, by rw [e1]; rfl, by rw [e2]; rfl, by rw [e3], e4, by omega, by omega, ?_⟩
  rw [e5, List.take_succ_cons, List.take_left]
end Go.Proofs.YtlafdmmjbkdkaaaGreatDoor
