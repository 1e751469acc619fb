/-
  cbor.Decoder.Step over the pragma's ten bytes: the map, its key, its value, its end. Conditions: as each contract says.
-/
import Derived.Test.YtlafdmmjbkdkaaaGreatDoorJCb
namespace Go.Proofs.YtlafdmmjbkdkaaaGreatDoor
open Go.RowKit

/-- The blocks of the decoder, of its stream and of the token are apart. -/
structure Dis (d s q r g sk lf tk : Nat) : Prop where
  dd : d ≠ s ∧ d ≠ q ∧ d ≠ r ∧ d ≠ g ∧ d ≠ sk ∧ d ≠ lf ∧ d ≠ tk
  kk : sk ≠ s ∧ sk ≠ q ∧ sk ≠ r ∧ sk ≠ g ∧ sk ≠ lf ∧ sk ≠ tk
  ll : lf ≠ s ∧ lf ≠ q ∧ lf ≠ r ∧ lf ≠ g ∧ lf ≠ tk
  tt : tk ≠ s ∧ tk ≠ q ∧ tk ≠ r ∧ tk ≠ g
  ee : 2 ≠ d ∧ 2 ≠ sk ∧ 2 ≠ lf ∧ 2 ≠ tk

theorem srn_m (s : Nat) (W : World) : (method 424 218 (.pointer (some ⟨s, 0, none⟩)) "Readn1").run Tryz.prog W = .ok (231, .pointer (some ⟨s, 0, none⟩)) W := by kernel_rfl

set_option maxRecDepth 100000 in
set_option maxHeartbeats 4000000 in
theorem stVal (d s q r g sk lf tk : Nat) (m : Int) (aE : Addr) (ty len u : Int) (str : List UInt8) (fl : Value) (ks ls : List Value) (w : World) (hd : Dis d s q r g sk lf tk) (hD : Blk w d 191 (decC s sk lf 0 0 0)) (hk : Blk w sk 189 ks.toArray) (hkl : ks.length = 10) (hl : Blk w lf 3 ls.toArray) (hll : ls.length = 10)
    (hT : Blk w tk 153 (tokC ty len str u fl)) (hS : Str w s q r g aE 0 m) (hm : 0 ≤ m ∧ m ≤ 100) :
    Calls Tryz.prog 95 #[.pointer (some ⟨d, 0, none⟩), .pointer (some ⟨tk, 0, none⟩)] w fun e w' => e = .returned (.tuple #[.bool false, .nilIface]) ∧
      Blk w' tk 153 (tokC 123 1 str u fl) ∧ Blk w' d 191 (decC s sk lf 1 5 1) ∧ Blk w' lf 3 (.int .i64 1 :: ls.drop 1).toArray ∧ Str w' s q r g aE 1 (m + 1) ∧ Kp [tk, d, sk, lf, s, q, r] w w' := by
  have hmr := srn_m s
  have HM1 : 0 ≤ m ∧ m ≤ 1000 := by omega
  have HM := hm
  have HM8 : m + 1 + 7 = m + 8 := by omega
  obtain ⟨⟨x1, x2, x3, x4, x5, x6, x7⟩, ⟨y1, y2, y3, y4, y5, y6⟩, ⟨z1, z2, z3, z4, z5⟩, ⟨t1, t2, t3, t4⟩, ⟨e1, e2, e3, e4⟩⟩ := hd
  obtain ⟨n1, n2, n3, n4, n5, n6⟩ := hS.n
  obtain ⟨j1, j2, j3⟩ := hS.e
  have q7 : w.cell? ⟨d, 7, none⟩ = some (.iface 218 (.pointer (some ⟨s, 0, none⟩))) := hD.cell 7
  have HR := Lib.hid (readn1_str s q r g 0 m 161 aE w hS (by decide) HM1 rfl)
  have HD := Lib.hid (And.intro hD (And.intro hk (And.intro hl hT)))
  clear hD hk hl hT hS
  go_enter Tryz.func95, Tryz.ntmps95
  go_wp2_with fail
  refine HR.out.mono ?_
  rintro e w1 ⟨rfl, S1, k1⟩
  have D1 := HD.out.1.kp k1 (by simp [x1, x2, x3])
  have K1 := HD.out.2.1.kp k1 (by simp [y1, y2, y3])
  have L1 := HD.out.2.2.1.kp k1 (by simp [z1, z2, z3])
  have T1 := HD.out.2.2.2.kp k1 (by simp [t1, t2, t3])
  have t8 : w1.cell? ⟨tk, 8, none⟩ = some (.bool false) := T1.cell 8
  have f8 := T1.frozen 8
  have HW := Lib.hid k1
  clear q7 k1
  go_wp2_with fail
  have k2 := (Kp.refl [tk] w1).setCell (p := ⟨tk, 8, none⟩) (.inl (by simp)) (.bool false)
  have T2 : Blk (w1.setCell ⟨tk, 8, none⟩ (.bool false)) tk 153 (tokC ty len str u fl) := T1.set_ 8 _
  have D2 := D1.kp k2 (by simp [x7])
  have K2 := K1.kp k2 (by simp [y6])
  have L2 := L1.kp k2 (by simp [z5])
  have S2 := S1.kp k2 (by simp [e4, t1.symm, t2.symm, t3.symm, t4.symm])
  clear t8 f8 T1 D1 K1 L1 S1
  generalize w1.setCell ⟨tk, 8, none⟩ (.bool false) = w2 at *
  have hh := help161 d s sk lf tk 0 ty len u str fl ks ls w2 D2 K2 hkl L2 hll T2 (by simp [x5, x6, y5, x7.symm, y6.symm, z5.symm])
  refine hh.mono ?_
  rintro e w3 ⟨rfl, T3, D3, L3, k3⟩
  have S3 := S2.kp k3 (by simp [e1, e2, e3, e4, x1.symm, x2.symm, x3.symm, x4.symm, y1.symm, y2.symm, y3.symm, y4.symm, z1.symm, z2.symm, z3.symm, z4.symm, t1.symm, t2.symm, t3.symm, t4.symm])
  have k13 : Kp [tk, d, sk, lf, s, q, r] w w3 := ((HW.out.weaken (l' := [tk, d, sk, lf, s, q, r]) (by simp)).step k2 (by simp)).step k3 (by simp)
  have HH := Lib.hid (And.intro T3 (And.intro D3 (And.intro L3 (And.intro S3 k13))))
  clear T3 D3 L3 S3 k13 hh T2 D2 K2 L2 S2 k3 k2
  go_wp2_with fail
  go_ret2
  exact ⟨rfl, HH.out⟩

set_option maxRecDepth 100000 in
set_option maxHeartbeats 4000000 in
theorem stKey (d s q r g sk lf tk : Nat) (m : Int) (aE : Addr) (ty len u : Int) (str : List UInt8) (fl : Value) (lr : List Value) (w : World) (hd : Dis d s q r g sk lf tk) (hD : Blk w d 191 (decC s sk lf 1 5 1)) (hl : Blk w lf 3 (.int .i64 1 :: lr).toArray)
    (hT : Blk w tk 153 (tokC ty len str u fl)) (hS : Str w s q r g aE 1 m) (hm : 0 ≤ m ∧ m ≤ 50) :
    Calls Tryz.prog 100 #[.pointer (some ⟨d, 0, none⟩), .pointer (some ⟨tk, 0, none⟩)] w fun e w' => e = .returned (.tuple #[.bool false, .nilIface]) ∧
      Blk w' tk 153 (tokC 115 len verB u fl) ∧ Blk w' d 191 (decC s sk lf 1 6 1) ∧ Blk w' lf 3 (.int .i64 0 :: lr).toArray ∧ Str w' s q r g aE 9 (m + 8) ∧ Kp [tk, d, sk, lf, s, q, r] w w' := by
  have HM2 : 0 ≤ m + 1 ∧ m + 1 ≤ 100 := by omega
  have hmr := srn_m s
  have HM1 : 0 ≤ m ∧ m ≤ 1000 := by omega
  have HM := hm
  have HM8 : m + 1 + 7 = m + 8 := by omega
  obtain ⟨⟨x1, x2, x3, x4, x5, x6, x7⟩, ⟨y1, y2, y3, y4, y5, y6⟩, ⟨z1, z2, z3, z4, z5⟩, ⟨t1, t2, t3, t4⟩, ⟨e1, e2, e3, e4⟩⟩ := hd
  obtain ⟨n1, n2, n3, n4, n5, n6⟩ := hS.n
  obtain ⟨j1, j2, j3⟩ := hS.e
  have q10 : w.cell? ⟨d, 10, none⟩ = some (.slice (some ⟨lf, 0, none⟩) 1 10) := hD.cell 10
  have c0 : w.cell? ⟨lf, 0, none⟩ = some (.int .i64 1) := hl.cell 0
  have f0 := hl.frozen 0
  have q7 : w.cell? ⟨d, 7, none⟩ = some (.iface 218 (.pointer (some ⟨s, 0, none⟩))) := hD.cell 7
  have nld : ¬ lf = d := fun h => x6 h.symm
  have HD := Lib.hid (And.intro hD (And.intro hl (And.intro hT hS)))
  clear hD hl hT hS
  go_enter Tryz.func100, Tryz.ntmps100
  go_wp2_with fail
  have k0 := (Kp.refl [lf] w).setCell (p := ⟨lf, 0, none⟩) (.inl (by simp)) (.int .i64 0)
  have L0 : Blk (w.setCell ⟨lf, 0, none⟩ (.int .i64 0)) lf 3 (.int .i64 0 :: lr).toArray := HD.out.2.1.set_ 0 _
  have D0 := HD.out.1.kp k0 (by simp [x6])
  have T0 := HD.out.2.2.1.kp k0 (by simp [z5.symm])
  have S0 := HD.out.2.2.2.kp k0 (by simp [e3, z1.symm, z2.symm, z3.symm, z4.symm])
  clear q10 c0 f0 q7
  generalize w.setCell ⟨lf, 0, none⟩ (.int .i64 0) = w0 at *
  refine (readn1_str s q r g 1 m 103 aE w0 S0 (by decide) HM1 rfl).mono ?_
  rintro e w1 ⟨rfl, S1, k1⟩
  have D1 := D0.kp k1 (by simp [x1, x2, x3])
  have L1 := L0.kp k1 (by simp [z1, z2, z3])
  have T1 := T0.kp k1 (by simp [t1, t2, t3])
  have t8 : w1.cell? ⟨tk, 8, none⟩ = some (.bool false) := T1.cell 8
  have f8 := T1.frozen 8
  have d9 : w1.cell? ⟨d, 9, none⟩ = some (.int .u8 5) := D1.cell 9
  have f9 := D1.frozen 9
  have kk : Kp [tk, d, sk, lf, s, q, r] w w1 := (k0.weaken (l' := [tk, d, sk, lf, s, q, r]) (by simp)).step k1 (by simp)
  have HW := Lib.hid kk
  clear k0 L0 D0 T0 S0 k1 kk
  go_wp2_with fail
  have ndt : d ≠ tk := x7
  have k2 := ((Kp.refl [tk, d] w1).setCell (p := ⟨d, 9, none⟩) (.inl (by simp)) (.int .u8 6)).setCell (p := ⟨tk, 8, none⟩) (.inl (by simp)) (.bool false)
  have T2 : Blk ((w1.setCell ⟨d, 9, none⟩ (.int .u8 6)).setCell ⟨tk, 8, none⟩ (.bool false)) tk 153 (tokC ty len str u fl) := (T1.far (p := ⟨d, 9, none⟩) (fun h => ndt h.symm) _).set_ 8 _
  have D2 : Blk ((w1.setCell ⟨d, 9, none⟩ (.int .u8 6)).setCell ⟨tk, 8, none⟩ (.bool false)) d 191 (decC s sk lf 1 6 1) := (D1.set_ 9 _).far (p := ⟨tk, 8, none⟩) ndt _
  have L2 := L1.kp k2 (by simp [z5, x6.symm])
  have S2 := S1.kp k2 (by simp [e1, e4, x1.symm, x2.symm, x3.symm, x4.symm, t1.symm, t2.symm, t3.symm, t4.symm])
  clear t8 f8 d9 f9 T1 D1 L1 S1
  generalize (w1.setCell ⟨d, 9, none⟩ (.int .u8 6)).setCell ⟨tk, 8, none⟩ (.bool false) = w2 at *
  have hh := help103 d s q r g sk lf 1 1 tk 6 (m + 1) aE ty len u str fl w2 D2 S2 HM2 T2 (by simp [t1, t2, t3, t4, e4, x7.symm])
  refine hh.mono ?_
  rintro e w3 ⟨rfl, T3, S3, k3⟩
  have D3 := D2.kp k3 (by simp [x1, x2, x3, x7])
  have L3 := L2.kp k3 (by simp [z1, z2, z3, z5])
  have k13 : Kp [tk, d, sk, lf, s, q, r] w w3 := (HW.out.step k2 (by simp)).step k3 (by simp)
  rw [HM8] at S3
  have HH := Lib.hid (And.intro T3 (And.intro D3 (And.intro L3 (And.intro S3 k13))))
  clear T3 D3 L3 S3 k13 hh T2 D2 L2 S2 k3 k2
  go_wp2_with fail
  go_ret2
  exact ⟨rfl, HH.out⟩

set_option maxRecDepth 100000 in
set_option maxHeartbeats 4000000 in
theorem stEnd (d s sk lf tk : Nat) (ty len u : Int) (str : List UInt8) (fl : Value) (lr : List Value) (w : World) (hdt : d ≠ tk) (hD : Blk w d 191 (decC s sk lf 1 5 1)) (hl : Blk w lf 3 (.int .i64 0 :: lr).toArray)
    (hT : Blk w tk 153 (tokC ty len str u fl)) :
    Calls Tryz.prog 100 #[.pointer (some ⟨d, 0, none⟩), .pointer (some ⟨tk, 0, none⟩)] w fun e w' => e = .returned (.tuple #[.bool true, .nilIface]) ∧
      Blk w' tk 153 (tokC 125 len str u fl) ∧ Blk w' d 191 (decC s sk lf 1 5 0) ∧ Kp [tk, d] w w' := by
  have q10 : w.cell? ⟨d, 10, none⟩ = some (.slice (some ⟨lf, 0, none⟩) 1 10) := hD.cell 10
  have g10 := hD.frozen 10
  have c0 : w.cell? ⟨lf, 0, none⟩ = some (.int .i64 0) := hl.cell 0
  have t0 : w.cell? ⟨tk, 0, none⟩ = some (.int .u8 ty) := hT.cell 0
  have f0 := hT.frozen 0
  have ndt : ¬ d = tk := hdt
  have ntd : ¬ tk = d := fun h => hdt h.symm
  go_enter Tryz.func100, Tryz.ntmps100
  go_wp2_with fail
  go_ret2
  exact ⟨rfl, (hT.far (p := ⟨d, 10, none⟩) ntd _).set_ 0 _, (hD.set_ 10 _).far (p := ⟨tk, 0, none⟩) ndt _, ((Kp.refl [tk, d] w).setCell (p := ⟨d, 10, none⟩) (.inl (by simp)) _).setCell (p := ⟨tk, 0, none⟩) (.inl (by simp)) _⟩

set_option maxRecDepth 100000 in
set_option maxHeartbeats 4000000 in
theorem stMap (d s q r g sk lf tk : Nat) (m : Int) (aE : Addr) (ty len u : Int) (str : List UInt8) (fl : Value) (w : World) (hd : Dis d s q r g sk lf tk) (hD : Blk w d 191 (decC s sk lf 1 6 1))
    (hT : Blk w tk 153 (tokC ty len str u fl)) (hS : Str w s q r g aE 9 m) (hm : 0 ≤ m ∧ m ≤ 100) :
    Calls Tryz.prog 101 #[.pointer (some ⟨d, 0, none⟩), .pointer (some ⟨tk, 0, none⟩)] w fun e w' => e = .returned (.tuple #[.bool false, .nilIface]) ∧
      Blk w' tk 153 (tokC 117 len str 2 fl) ∧ Blk w' d 191 (decC s sk lf 1 5 1) ∧ Kp [tk, d, s, q, r] w w' := by
  have hmr := srn_m s
  have HM1 : 0 ≤ m ∧ m ≤ 1000 := by omega
  have HM := hm
  have HM8 : m + 1 + 7 = m + 8 := by omega
  obtain ⟨⟨x1, x2, x3, x4, x5, x6, x7⟩, ⟨y1, y2, y3, y4, y5, y6⟩, ⟨z1, z2, z3, z4, z5⟩, ⟨t1, t2, t3, t4⟩, ⟨e1, e2, e3, e4⟩⟩ := hd
  obtain ⟨n1, n2, n3, n4, n5, n6⟩ := hS.n
  obtain ⟨j1, j2, j3⟩ := hS.e
  have q7 : w.cell? ⟨d, 7, none⟩ = some (.iface 218 (.pointer (some ⟨s, 0, none⟩))) := hD.cell 7
  have HR := Lib.hid (readn1_str s q r g 9 m 2 aE w hS (by decide) HM1 rfl)
  have HD := Lib.hid (And.intro hD hT)
  clear hD hT hS
  go_enter Tryz.func101, Tryz.ntmps101
  go_wp2_with fail
  refine HR.out.mono ?_
  rintro e w1 ⟨rfl, S1, k1⟩
  have D1 := HD.out.1.kp k1 (by simp [x1, x2, x3])
  have T1 := HD.out.2.kp k1 (by simp [t1, t2, t3])
  have t8 : w1.cell? ⟨tk, 8, none⟩ = some (.bool false) := T1.cell 8
  have f8 := T1.frozen 8
  have d9 : w1.cell? ⟨d, 9, none⟩ = some (.int .u8 6) := D1.cell 9
  have f9 := D1.frozen 9
  have HW := Lib.hid k1
  clear q7 k1 S1
  go_wp2_with fail
  have ndt : d ≠ tk := x7
  have k2 := ((Kp.refl [tk, d] w1).setCell (p := ⟨d, 9, none⟩) (.inl (by simp)) (.int .u8 5)).setCell (p := ⟨tk, 8, none⟩) (.inl (by simp)) (.bool false)
  have T2 : Blk ((w1.setCell ⟨d, 9, none⟩ (.int .u8 5)).setCell ⟨tk, 8, none⟩ (.bool false)) tk 153 (tokC ty len str u fl) := (T1.far (p := ⟨d, 9, none⟩) (fun h => ndt h.symm) _).set_ 8 _
  have D2 : Blk ((w1.setCell ⟨d, 9, none⟩ (.int .u8 5)).setCell ⟨tk, 8, none⟩ (.bool false)) d 191 (decC s sk lf 1 5 1) := (D1.set_ 9 _).far (p := ⟨tk, 8, none⟩) ndt _
  clear t8 f8 d9 f9 T1 D1
  generalize (w1.setCell ⟨d, 9, none⟩ (.int .u8 5)).setCell ⟨tk, 8, none⟩ (.bool false) = w2 at *
  have hh := help2 d tk ty len u str fl w2 T2
  refine hh.mono ?_
  rintro e w3 ⟨rfl, T3, k3⟩
  have D3 := D2.kp k3 (by simp [x7])
  have k13 : Kp [tk, d, s, q, r] w w3 := ((HW.out.weaken (l' := [tk, d, s, q, r]) (by simp)).step k2 (by simp)).step k3 (by simp)
  have HH := Lib.hid (And.intro T3 (And.intro D3 k13))
  clear T3 D3 k13 hh T2 D2 k3 k2
  go_wp2_with fail
  go_ret2
  exact ⟨rfl, HH.out⟩

set_option maxRecDepth 100000 in
set_option maxHeartbeats 2000000 in
theorem stepVal (d s sk lf tk sl ll : Nat) (w : World) (Post : World → Prop) (hD : Blk w d 191 (decC s sk lf sl 0 ll))
    (HR : Calls Tryz.prog 95 #[.pointer (some ⟨d, 0, none⟩), .pointer (some ⟨tk, 0, none⟩)] w fun e w' => e = .returned (.tuple #[.bool false, .nilIface]) ∧ Post w') :
    Calls Tryz.prog 82 #[.pointer (some ⟨d, 0, none⟩), .pointer (some ⟨tk, 0, none⟩)] w fun e w' => e = .returned (.tuple #[.bool false, .nilIface]) ∧ Post w' := by
  have q9 : w.cell? ⟨d, 9, none⟩ = some (.int .u8 0) := hD.cell 9
  have H := Lib.hid HR
  clear HR hD
  go_enter Tryz.func82, Tryz.ntmps82
  go_wp2_with fail
  refine H.out.mono ?_
  rintro e w1 ⟨rfl, hP⟩
  have HP := Lib.hid hP
  clear hP q9
  go_wp2_with fail
  go_ret2
  exact ⟨rfl, HP.out⟩

set_option maxRecDepth 100000 in
set_option maxHeartbeats 2000000 in
theorem stepKey (d s sk lf tk sl ll : Nat) (w : World) (Post : World → Prop) (hD : Blk w d 191 (decC s sk lf sl 5 ll))
    (HR : Calls Tryz.prog 100 #[.pointer (some ⟨d, 0, none⟩), .pointer (some ⟨tk, 0, none⟩)] w fun e w' => e = .returned (.tuple #[.bool false, .nilIface]) ∧ Post w') :
    Calls Tryz.prog 82 #[.pointer (some ⟨d, 0, none⟩), .pointer (some ⟨tk, 0, none⟩)] w fun e w' => e = .returned (.tuple #[.bool false, .nilIface]) ∧ Post w' := by
  have q9 : w.cell? ⟨d, 9, none⟩ = some (.int .u8 5) := hD.cell 9
  have H := Lib.hid HR
  clear HR hD
  go_enter Tryz.func82, Tryz.ntmps82
  go_wp2_with fail
  refine H.out.mono ?_
  rintro e w1 ⟨rfl, hP⟩
  have HP := Lib.hid hP
  clear hP q9
  go_wp2_with fail
  go_ret2
  exact ⟨rfl, HP.out⟩

set_option maxRecDepth 100000 in
set_option maxHeartbeats 2000000 in
theorem stepMap (d s sk lf tk sl ll : Nat) (w : World) (Post : World → Prop) (hD : Blk w d 191 (decC s sk lf sl 6 ll))
    (HR : Calls Tryz.prog 101 #[.pointer (some ⟨d, 0, none⟩), .pointer (some ⟨tk, 0, none⟩)] w fun e w' => e = .returned (.tuple #[.bool false, .nilIface]) ∧ Post w') :
    Calls Tryz.prog 82 #[.pointer (some ⟨d, 0, none⟩), .pointer (some ⟨tk, 0, none⟩)] w fun e w' => e = .returned (.tuple #[.bool false, .nilIface]) ∧ Post w' := by
  have q9 : w.cell? ⟨d, 9, none⟩ = some (.int .u8 6) := hD.cell 9
  have H := Lib.hid HR
  clear HR hD
  go_enter Tryz.func82, Tryz.ntmps82
  go_wp2_with fail
  refine H.out.mono ?_
  rintro e w1 ⟨rfl, hP⟩
  have HP := Lib.hid hP
  clear hP q9
  go_wp2_with fail
  go_ret2
  exact ⟨rfl, HP.out⟩

set_option maxRecDepth 100000 in
set_option maxHeartbeats 2000000 in
theorem stepEnd (d s sk lf tk ll ll' : Nat) (w : World) (Post : World → Prop) (hD : Blk w d 191 (decC s sk lf 1 5 ll))
    (HR : Calls Tryz.prog 100 #[.pointer (some ⟨d, 0, none⟩), .pointer (some ⟨tk, 0, none⟩)] w fun e w' => e = .returned (.tuple #[.bool true, .nilIface]) ∧ Blk w' d 191 (decC s sk lf 1 5 ll') ∧ Post w') :
    Calls Tryz.prog 82 #[.pointer (some ⟨d, 0, none⟩), .pointer (some ⟨tk, 0, none⟩)] w fun e w' => e = .returned (.tuple #[.bool true, .nilIface]) ∧ Post w' := by
  have q9 : w.cell? ⟨d, 9, none⟩ = some (.int .u8 5) := hD.cell 9
  have H := Lib.hid HR
  clear HR hD
  go_enter Tryz.func82, Tryz.ntmps82
  go_wp2_with fail
  refine H.out.mono ?_
  rintro e w1 ⟨rfl, hB, hP⟩
  have p8 : w1.cell? ⟨d, 8, none⟩ = some (.slice (some ⟨sk, 0, none⟩) 1 10) := hB.cell 8
  have HP := Lib.hid hP
  clear hP q9 hB
  go_wp2_with fail
  go_ret2
  exact ⟨rfl, HP.out⟩
end Go.Proofs.YtlafdmmjbkdkaaaGreatDoor
