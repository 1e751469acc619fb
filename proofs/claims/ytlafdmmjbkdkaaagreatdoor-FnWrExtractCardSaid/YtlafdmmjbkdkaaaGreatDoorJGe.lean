/-
  cbor.Decoder over any text: decodeUint, decodeLen, decodeBytes of lengths below 24 and of one byte. Conditions: as each contract says.
  cbor.Decoder over any text: Readnzc and decodeString of fewer than 24 bytes, pushPhase onto a stack of one. Conditions: as each contract says.
  cbor.Decoder over any text: stepHelper_acceptValue at an array's head, within a map. Conditions: as the contract says.
-/
import Derived.Test.YtlafdmmjbkdkaaaGreatDoorJGa
import Derived.Test.YtlafdmmjbkdkaaaGreatDoorCe
namespace Go.Proofs.YtlafdmmjbkdkaaaGreatDoor
open Go.RowKit

theorem low_arr : ∀ n : Nat, n < 24 → bits BinOp.and IntKind.u8 ((128 + n : Nat) : Int) 31 = n := by decide
theorem low_bytes : ∀ n : Nat, n < 24 → bits BinOp.and IntKind.u8 ((64 + n : Nat) : Int) 31 = n := by decide

set_option maxRecDepth 100000 in
set_option maxHeartbeats 2000000 in
theorem duLow (a : Value) (b v : Int) (w : World) (hb : bits BinOp.and IntKind.u8 b 31 = v) (hv0 : 0 ≤ v) (hv : v ≤ 23) :
    Calls Tryz.prog 137 #[a, .int .u8 b] w fun e w' => e = .returned (.tuple #[.int .u64 v, .nilIface]) ∧ w' = w := by
  have h23 : decide (v ≤ 23) = true := by simpa using hv
  have hw : IntKind.u64.wrap v = v := by rw [IntKind.wrap_u64]; omega
  go_enter Tryz.func137, Tryz.ntmps137
  go_wp2_with fail
  go_ret2
  exact ⟨rfl, rfl⟩

set_option maxRecDepth 100000 in
set_option maxHeartbeats 2000000 in
theorem duOne (d s q r g c i sk lf sl ll : Nat) (b m z : Int) (ph : Int) (T : List UInt8) (aE : Addr) (w : World) (hb : bits BinOp.and IntKind.u8 b 31 = 24) (hD : Blk w d 191 (decC s sk lf sl ph ll)) (hd : d ≠ s ∧ d ≠ q ∧ d ≠ r)
    (h : StrG w s q r g c T aE i m) (hi : i < T.length) (hm : 0 ≤ m ∧ m ≤ 100000) (hz : ((T[i]'hi).toNat : Int) = z) (_hz0 : 0 ≤ z) (hz1 : z < 256) :
    Calls Tryz.prog 137 #[.pointer (some ⟨d, 0, none⟩), .int .u8 b] w fun e w' => e = .returned (.tuple #[.int .u64 z, .nilIface]) ∧ StrG w' s q r g c T aE (i + 1) (m + 1) ∧ Kp [s, q, r] w w' := by
  have hmr := srn_m s
  have q7 : w.cell? ⟨d, 7, none⟩ = some (.iface 218 (.pointer (some ⟨s, 0, none⟩))) := hD.cell 7
  have hw : IntKind.u64.wrap z = z := by rw [IntKind.wrap_u64]; omega
  have H := Lib.hid (And.intro (readn1_strG s q r g c i m z T aE w h hi ⟨hm.1, by omega⟩ hz) (And.intro hD hd))
  clear h hz hD hd hi
  go_enter Tryz.func137, Tryz.ntmps137
  go_wp2_with fail
  refine H.out.1.mono ?_
  rintro e w1 ⟨rfl, hS, hK⟩
  have D1 := H.out.2.1.kp hK (by simp [H.out.2.2.1, H.out.2.2.2.1, H.out.2.2.2.2])
  have p3 : w1.cell? ⟨d, 3, none⟩ = some (.bool false) := D1.cell 3
  have HB := Lib.hid (And.intro hS hK)
  clear hS hK D1 q7
  go_wp2_with fail
  go_ret2
  exact ⟨rfl, HB.out⟩

set_option maxRecDepth 100000 in
set_option maxHeartbeats 2000000 in
theorem dl_of (a b : Value) (v : Int) (w : World) (Post : World → Prop) (hv0 : 0 ≤ v) (hv : v ≤ 1000000)
    (HR : Calls Tryz.prog 137 #[a, b] w fun e w' => e = .returned (.tuple #[.int .u64 v, .nilIface]) ∧ Post w') :
    Calls Tryz.prog 141 #[a, b] w fun e w' => e = .returned (.tuple #[.int .i64 v, .nilIface]) ∧ Post w' := by
  have hw : IntKind.i64.wrap v = v := by rw [IntKind.wrap_i64]; omega
  have hgt : decide (9223372036854775807 < v) = false := by rw [decide_eq_false_iff_not]; omega
  have H := Lib.hid HR
  clear HR
  go_enter Tryz.func141, Tryz.ntmps141
  go_wp2_with fail
  refine H.out.mono ?_
  rintro e w1 ⟨rfl, hP⟩
  have HP := Lib.hid hP
  clear hP
  go_wp2_with fail
  go_ret2
  exact ⟨rfl, HP.out⟩

set_option maxRecDepth 100000 in
set_option maxHeartbeats 2000000 in
theorem decBytes (d s q r g c _i j k sk lf sl ll : Nat) (b : Value) (_m m2 : Int) (ph : Int) (T : List UInt8) (aE : Addr) (w : World) (hD : Blk w d 191 (decC s sk lf sl ph ll)) (hd : d ≠ s ∧ d ≠ q ∧ d ≠ r) (hgl : g < w.heap.size)
    (HL : Calls Tryz.prog 141 #[.pointer (some ⟨d, 0, none⟩), b] w fun e w' => e = .returned (.tuple #[.int .i64 ((k : Int) + 1), .nilIface]) ∧ StrG w' s q r g c T aE j m2 ∧ Kp [s, q, r] w w')
    (hj : j + (k + 1) ≤ T.length) (hk : k + 1 ≤ 4096) (hm : 0 ≤ m2 ∧ m2 ≤ 100000) :
    Calls Tryz.prog 139 #[.pointer (some ⟨d, 0, none⟩), b] w fun e w' => ∃ bk cc, e = .returned (.tuple #[.slice (some ⟨bk, 0, none⟩) (k + 1) cc, .nilIface]) ∧ Bs w' bk 0 ((T.drop j).take (k + 1)) ∧ k + 1 ≤ cc ∧ w.heap.size ≤ bk ∧
      StrG w' s q r g c T aE (j + (k + 1)) (m2 + (k + 1)) ∧ Kp [s, q, r] w w' := by
  have hmr : ∀ W, (method 424 218 (.pointer (some ⟨s, 0, none⟩)) "Readn").run Tryz.prog W = .ok (230, .pointer (some ⟨s, 0, none⟩)) W := fun _ => by kernel_rfl
  have hgt : decide (33554432 < (k : Int) + 1) = false := by rw [decide_eq_false_iff_not]; omega
  have H := Lib.hid (And.intro HL (And.intro hD (And.intro hd (And.intro hj (And.intro hk hm)))))
  clear HL hD hd hj hk hm
  go_enter Tryz.func139, Tryz.ntmps139
  go_wp2_with fail
  refine H.out.1.mono ?_
  rintro e w1 ⟨rfl, hS, hK⟩
  have D1 := H.out.2.1.kp hK (by simp [H.out.2.2.1.1, H.out.2.2.1.2.1, H.out.2.2.1.2.2])
  have p7 : w1.cell? ⟨d, 7, none⟩ = some (.iface 218 (.pointer (some ⟨s, 0, none⟩))) := D1.cell 7
  have s1 := hK.size
  have HB := Lib.hid (And.intro hS hK)
  clear hS hK D1
  go_wp2_with fail
  refine (readnG s q r g c j k m2 T aE w1 HB.out.1 H.out.2.2.2.1 H.out.2.2.2.2.1 ⟨H.out.2.2.2.2.2.1, by have := H.out.2.2.2.2.2.2; omega⟩ (by omega)).mono ?_
  rintro e w2 ⟨bk, cc, rfl, hB, hc, hbk, hS, hK⟩
  have HC := Lib.hid (And.intro hB (And.intro hc (And.intro hbk (And.intro hS hK))))
  clear hB hc hbk hS hK p7
  go_wp2_with fail
  go_ret2
  exact ⟨bk, cc, rfl, HC.out.1, HC.out.2.1, Nat.le_trans s1 HC.out.2.2.1, HC.out.2.2.2.1, HB.out.2.trans HC.out.2.2.2.2⟩
end Go.Proofs.YtlafdmmjbkdkaaaGreatDoor

namespace Go.Proofs.YtlafdmmjbkdkaaaGreatDoor
open Go.RowKit

set_option maxRecDepth 100000 in
set_option maxHeartbeats 2000000 in
theorem readnzcG (s q r g c i k : Nat) (m : Int) (T : List UInt8) (aE : Addr) (w : World) (h : StrG w s q r g c T aE i m) (hi : i + (k + 1) ≤ T.length) (hk : k + 1 < 32) (hm : 0 ≤ m ∧ m ≤ 1000000) :
    Calls Tryz.prog 232 #[.pointer (some ⟨s, 0, none⟩), .int .i64 ((k : Int) + 1)] w fun e w' => e = .returned (.tuple #[.slice (some ⟨s, 1, none⟩) (k + 1) 32, .nilIface]) ∧ Bs w' s 1 ((T.drop i).take (k + 1)) ∧
      StrG w' s q r g c T aE (i + (k + 1)) (m + (k + 1)) ∧ Kp [s, q, r] w w' := by
  have H := Lib.hid (partS s q r g c i k m T aE w h hi hk hm)
  clear h hi hk hm
  go_enter Tryz.func232, Tryz.ntmps232
  go_wp2_with fail
  refine H.out.mono ?_
  rintro e w1 ⟨rfl, hx⟩
  have HX := Lib.hid hx
  clear hx
  go_wp2_with fail
  go_ret2
  exact ⟨rfl, HX.out⟩

set_option maxRecDepth 100000 in
set_option maxHeartbeats 2000000 in
theorem decStrG (d s q r g c i k sk lf sl ll : Nat) (b m : Int) (ph : Int) (T l : List UInt8) (aE : Addr) (w : World) (hb : bits BinOp.and IntKind.u8 b 31 = ((k : Int) + 1)) (hk : k + 1 < 24) (hD : Blk w d 191 (decC s sk lf sl ph ll))
    (h : StrG w s q r g c T aE i m) (hi : i + (k + 1) ≤ T.length) (hm : 0 ≤ m ∧ m ≤ 100000) (hl : (T.drop i).take (k + 1) = l) :
    Calls Tryz.prog 140 #[.pointer (some ⟨d, 0, none⟩), .int .u8 b] w fun e w' => e = .returned (.tuple #[.string ⟨l.toArray⟩, .nilIface]) ∧ StrG w' s q r g c T aE (i + (k + 1)) (m + (k + 1)) ∧ Kp [s, q, r] w w' := by
  have hmr : ∀ W, (method 424 218 (.pointer (some ⟨s, 0, none⟩)) "Readnzc").run Tryz.prog W = .ok (232, .pointer (some ⟨s, 0, none⟩)) W := fun _ => by kernel_rfl
  have q7 : w.cell? ⟨d, 7, none⟩ = some (.iface 218 (.pointer (some ⟨s, 0, none⟩))) := hD.cell 7
  have hll : l.length = k + 1 := by rw [← hl, List.length_take, List.length_drop]; omega
  have hgt : decide (33554432 < (k : Int) + 1) = false := by rw [decide_eq_false_iff_not]; omega
  have hr := readnzcG s q r g c i k m T aE w h hi (by omega) ⟨hm.1, by omega⟩
  rw [hl] at hr
  have H := Lib.hid (And.intro hr (And.intro (dl_of (.pointer (some ⟨d, 0, none⟩)) (.int .u8 b) ((k : Int) + 1) w (fun w' => w' = w) (by omega) (by omega) (duLow _ b _ w hb (by omega) (by omega))) hll))
  clear hr h hD hl hi hb hll hk hm
  go_enter Tryz.func140, Tryz.ntmps140
  go_wp2_with fail
  refine H.out.2.1.mono ?_
  rintro e w1 ⟨rfl, rfl⟩
  go_wp2_with fail
  refine H.out.1.mono ?_
  rintro e w2 ⟨rfl, hB, S, K⟩
  have hcv : (convert 45 9 (.slice (some ⟨s, 1, none⟩) (k + 1) 32)).run Tryz.prog w2 = .ok (.string ⟨l.toArray⟩) w2 := conv_str (P := Tryz.prog) Tryz.underlying45 Tryz.underlying5 Tryz.underlying9 (n := k + 1) (c := 32) hB H.out.2.2.symm
  have HH := Lib.hid (And.intro S K)
  clear S K hB q7
  go_wp2_with fail
  go_ret2
  exact ⟨rfl, HH.out.1, HH.out.2⟩

set_option maxRecDepth 100000 in
set_option maxHeartbeats 2000000 in
theorem push2_any (d s sk lf : Nat) (ll : Nat) (ph nph : Int) (k0 k1 : Value) (rest : List Value) (w : World) (h : Blk w d 191 (decC s sk lf 1 ph ll)) (hk : Blk w sk 189 (k0 :: k1 :: rest).toArray) (hds : d ≠ sk) :
    Calls Tryz.prog 136 #[.pointer (some ⟨d, 0, none⟩), .int .u8 nph] w fun e w' => e = .returned (.tuple #[]) ∧ Blk w' d 191 (decC s sk lf 2 nph ll) ∧
      Blk w' sk 189 (k0 :: .int .u8 ph :: rest).toArray ∧ Kp [d, sk] w w' := by
  have q8 : w.cell? ⟨d, 8, none⟩ = some (.slice (some ⟨sk, 0, none⟩) 1 10) := h.cell 8
  have q9 : w.cell? ⟨d, 9, none⟩ = some (.int .u8 ph) := h.cell 9
  have c1 : w.cell? ⟨sk, 1, none⟩ = some k1 := hk.cell 1
  have g1 := hk.frozen 1
  have f8 := h.frozen 8
  have f9 := h.frozen 9
  have hsd : ¬ sk = d := fun e => hds e.symm
  have hds' : ¬ d = sk := hds
  have hdl := h.lt
  have hkl' := hk.lt
  obtain ⟨i0, hi0, hz0, hz1, hz2⟩ := info_parts infoPh
  go_enter Tryz.func136, Tryz.ntmps136
  go_wp2_with fail
  go_region_with (fail)
  all_goals go_wp2_with fail
  all_goals go_end0
  all_goals
    have h2 := (((h.far (p := ⟨sk, 1, none⟩) hds (.int .u8 ph)).set_ 8 (.slice (some ⟨sk, 0, none⟩) 2 10)).set_ 9 (.int .u8 nph)).alloc (.cells #[.int .u8 ph] 189)
    have h3 := (((hk.set_ 1 (.int .u8 ph)).far (p := ⟨d, 8, none⟩) hsd (.slice (some ⟨sk, 0, none⟩) 2 10)).far (p := ⟨d, 9, none⟩) hsd (.int .u8 nph)).alloc (.cells #[.int .u8 ph] 189)
    have k2 := ((((Kp.refl [d, sk] w).setCell (p := ⟨sk, 1, none⟩) (.inl (by simp)) (.int .u8 ph)).setCell (p := ⟨d, 8, none⟩) (.inl (by simp)) (.slice (some ⟨sk, 0, none⟩) 2 10)).setCell (p := ⟨d, 9, none⟩) (.inl (by simp)) (.int .u8 nph)).alloc (.cells #[.int .u8 ph] 189)
    exact ⟨rfl, h2.drew, h3.drew, k2.drew⟩
end Go.Proofs.YtlafdmmjbkdkaaaGreatDoor

namespace Go.Proofs.YtlafdmmjbkdkaaaGreatDoor
open Go.RowKit

set_option maxRecDepth 100000 in
set_option maxHeartbeats 4000000 in
theorem helpArr (d s q r g c j sk lf tk : Nat) (b n m2 : Int) (ty len u : Int) (str T : List UInt8) (fl k0 k1 l0 l1 : Value) (kr lr : List Value) (aE : Addr) (w : World) (hb0 : 128 ≤ b) (hb1 : b < 159) (hd : Dis d s q r g sk lf tk) (hD : Blk w d 191 (decC s sk lf 1 5 1)) (hk : Blk w sk 189 (k0 :: k1 :: kr).toArray) (hl : Blk w lf 3 (l0 :: l1 :: lr).toArray)
    (hT : Blk w tk 153 (tokC ty len str u fl))
    (HL : Calls Tryz.prog 141 #[.pointer (some ⟨d, 0, none⟩), .int .u8 b] w fun e w' => e = .returned (.tuple #[.int .i64 n, .nilIface]) ∧ StrG w' s q r g c T aE j m2 ∧ Kp [s, q, r] w w') :
    Calls Tryz.prog 124 #[.pointer (some ⟨d, 0, none⟩), .int .u8 b, .pointer (some ⟨tk, 0, none⟩)] w fun e w' => e = .returned (.tuple #[.bool false, .nilIface]) ∧
      Blk w' tk 153 (tokC 91 n str u fl) ∧ Blk w' d 191 (decC s sk lf 2 4 2) ∧ Blk w' lf 3 (l0 :: .int .i64 n :: lr).toArray ∧ Blk w' sk 189 (k0 :: .int .u8 5 :: kr).toArray ∧ StrG w' s q r g c T aE j m2 ∧ Kp [tk, d, sk, lf, s, q, r] w w' := by
  have e246 : (b == 246) = false := by rw [beq_eq_false_iff_ne]; omega
  have e247 : (b == 247) = false := by rw [beq_eq_false_iff_ne]; omega
  have e244 : (b == 244) = false := by rw [beq_eq_false_iff_ne]; omega
  have e245 : (b == 245) = false := by rw [beq_eq_false_iff_ne]; omega
  have e249 : (b == 249) = false := by rw [beq_eq_false_iff_ne]; omega
  have e250 : (b == 250) = false := by rw [beq_eq_false_iff_ne]; omega
  have e251 : (b == 251) = false := by rw [beq_eq_false_iff_ne]; omega
  have e95 : (b == 95) = false := by rw [beq_eq_false_iff_ne]; omega
  have e127 : (b == 127) = false := by rw [beq_eq_false_iff_ne]; omega
  have e159 : (b == 159) = false := by rw [beq_eq_false_iff_ne]; omega
  have e191 : (b == 191) = false := by rw [beq_eq_false_iff_ne]; omega
  have r0 : decide (0 ≤ b) = true := by rw [decide_eq_true_eq]; omega
  have r1 : decide (b < 32) = false := by rw [decide_eq_false_iff_not]; omega
  have r2 : decide (32 ≤ b) = true := by rw [decide_eq_true_eq]; omega
  have r3 : decide (b < 64) = false := by rw [decide_eq_false_iff_not]; omega
  have r4 : decide (64 ≤ b) = true := by rw [decide_eq_true_eq]; omega
  have r5 : decide (b < 96) = false := by rw [decide_eq_false_iff_not]; omega
  have r6 : decide (96 ≤ b) = true := by rw [decide_eq_true_eq]; omega
  have r7 : decide (b < 128) = false := by rw [decide_eq_false_iff_not]; omega
  have r8 : decide (128 ≤ b) = true := by rw [decide_eq_true_eq]; omega
  have r9 : decide (b < 160) = true := by rw [decide_eq_true_eq]; omega
  obtain ⟨i0, hi0, hz0, hz1, hz2⟩ := info_parts infoI
  have H := Lib.hid (And.intro HL (And.intro hd (And.intro hD (And.intro hk (And.intro hl hT)))))
  clear HL hd hD hk hl hT hb0 hb1
  go_enter Tryz.func124, Tryz.ntmps124
  go_wp2_with fail
  refine H.out.1.mono ?_
  rintro e w1 ⟨rfl, hS, hK⟩
  obtain ⟨⟨x1, x2, x3, x4, x5, x6, x7⟩, ⟨y1, y2, y3, y4, y5, y6⟩, ⟨z1, z2, z3, z4, z5⟩, ⟨t1, t2, t3, t4⟩, ⟨v1, v2, v3, v4⟩⟩ := H.out.2.1
  have D1 := H.out.2.2.1.kp hK (by simp [x1, x2, x3])
  have K1 := H.out.2.2.2.1.kp hK (by simp [y1, y2, y3])
  have L1 := H.out.2.2.2.2.1.kp hK (by simp [z1, z2, z3])
  have T1 := H.out.2.2.2.2.2.kp hK (by simp [t1, t2, t3])
  have q0 : w1.cell? ⟨tk, 0, none⟩ = some (.int .u8 ty) := T1.cell 0
  have q1 : w1.cell? ⟨tk, 1, none⟩ = some (.int .i64 len) := T1.cell 1
  have f0 := T1.frozen 0
  have f1 := T1.frozen 1
  have d10 : w1.cell? ⟨d, 10, none⟩ = some (.slice (some ⟨lf, 0, none⟩) 1 10) := D1.cell 10
  have g10 := D1.frozen 10
  have c1 : w1.cell? ⟨lf, 1, none⟩ = some l1 := L1.cell 1
  have g1 := L1.frozen 1
  have w1z := D1.lt
  have w2z := L1.lt
  have w3z := T1.lt
  have n1 : ¬ d = tk := x7
  have n2 : ¬ lf = tk := z5
  have n3 : ¬ lf = d := fun h => x6 h.symm
  have n4 : ¬ tk = lf := fun h => z5 h.symm
  have n5 : ¬ tk = d := fun h => x7 h.symm
  have n6 : ¬ d = lf := x6
  have kw : Kp [tk, d, lf] w1 (((((w1.setCell ⟨tk, 0, none⟩ (.int .u8 91)).setCell ⟨tk, 1, none⟩ (.int .i64 n)).setCell ⟨lf, 1, none⟩ (.int .i64 n)).setCell ⟨d, 10, none⟩ (.slice (some ⟨lf, 0, none⟩) 2 10)).alloc (.cells #[.int .i64 n] 3)) :=
    (((((Kp.refl [tk, d, lf] w1).setCell (p := ⟨tk, 0, none⟩) (.inl (by simp)) _).setCell (p := ⟨tk, 1, none⟩) (.inl (by simp)) _).setCell (p := ⟨lf, 1, none⟩) (.inl (by simp)) _).setCell (p := ⟨d, 10, none⟩) (.inl (by simp)) _).alloc _
  have tw : Blk (((((w1.setCell ⟨tk, 0, none⟩ (.int .u8 91)).setCell ⟨tk, 1, none⟩ (.int .i64 n)).setCell ⟨lf, 1, none⟩ (.int .i64 n)).setCell ⟨d, 10, none⟩ (.slice (some ⟨lf, 0, none⟩) 2 10)).alloc (.cells #[.int .i64 n] 3)) tk 153 (tokC 91 n str u fl) := ((((T1.set_ 0 _).set_ 1 _).far (p := ⟨lf, 1, none⟩) n4 _).far (p := ⟨d, 10, none⟩) n5 _).alloc _
  have dw : Blk (((((w1.setCell ⟨tk, 0, none⟩ (.int .u8 91)).setCell ⟨tk, 1, none⟩ (.int .i64 n)).setCell ⟨lf, 1, none⟩ (.int .i64 n)).setCell ⟨d, 10, none⟩ (.slice (some ⟨lf, 0, none⟩) 2 10)).alloc (.cells #[.int .i64 n] 3)) d 191 (decC s sk lf 1 5 2) := ((((D1.far (p := ⟨tk, 0, none⟩) n1 _).far (p := ⟨tk, 1, none⟩) n1 _).far (p := ⟨lf, 1, none⟩) n6 _).set_ 10 _).alloc _
  have lw : Blk (((((w1.setCell ⟨tk, 0, none⟩ (.int .u8 91)).setCell ⟨tk, 1, none⟩ (.int .i64 n)).setCell ⟨lf, 1, none⟩ (.int .i64 n)).setCell ⟨d, 10, none⟩ (.slice (some ⟨lf, 0, none⟩) 2 10)).alloc (.cells #[.int .i64 n] 3)) lf 3 (l0 :: .int .i64 n :: lr).toArray := ((((L1.far (p := ⟨tk, 0, none⟩) n2 _).far (p := ⟨tk, 1, none⟩) n2 _).set_ 1 _).far (p := ⟨d, 10, none⟩) n3 _).alloc _
  have sw := K1.kp kw (by simp [y6, y5, x5.symm])
  have Sw := hS.kp kw (by simp [t1.symm, t2.symm, t3.symm, t4.symm, x1.symm, x2.symm, x3.symm, x4.symm, z1.symm, z2.symm, z3.symm, z4.symm, v1, v3, v4])
  have HH := Lib.hid (And.intro tw (And.intro lw (And.intro Sw (And.intro kw hK))))
  clear D1 K1 L1 T1 hS hK tw lw Sw kw v1 v2 v3 v4 x1 x2 x3 x4 x7 y1 y2 y3 y4 y6 z1 z2 z3 z4 z5 t1 t2 t3 t4
  go_wp2_with fail
  clear q0 q1 f0 f1 d10 g10 c1 g1
  generalize (((((w1.setCell ⟨tk, 0, none⟩ (.int .u8 91)).setCell ⟨tk, 1, none⟩ (.int .i64 n)).setCell ⟨lf, 1, none⟩ (.int .i64 n)).setCell ⟨d, 10, none⟩ (.slice (some ⟨lf, 0, none⟩) 2 10)).alloc (.cells #[.int .i64 n] 3)) = w2 at *
  refine (push2_any d s sk lf 2 5 4 k0 k1 kr w2 dw sw x5).mono ?_
  rintro e w3 ⟨rfl, D3, K3, k3⟩
  have hx := H.out.2.1
  have T3 := HH.out.1.kp k3 (by simp [hx.dd.2.2.2.2.2.2.symm, hx.kk.2.2.2.2.2.symm])
  have L3 := HH.out.2.1.kp k3 (by simp [hx.dd.2.2.2.2.2.1.symm, hx.kk.2.2.2.2.1.symm])
  have S3 := HH.out.2.2.1.kp k3 (by simp [hx.dd.1.symm, hx.dd.2.1.symm, hx.dd.2.2.1.symm, hx.dd.2.2.2.1.symm, hx.kk.1.symm, hx.kk.2.1.symm, hx.kk.2.2.1.symm, hx.kk.2.2.2.1.symm, hx.ee.1, hx.ee.2.1])
  have k13 : Kp [tk, d, sk, lf, s, q, r] w w3 := ((HH.out.2.2.2.2.weaken (l' := [tk, d, sk, lf, s, q, r]) (by simp)).step HH.out.2.2.2.1 (by simp)).step k3 (by simp)
  have HG := Lib.hid (And.intro T3 (And.intro D3 (And.intro L3 (And.intro K3 (And.intro S3 k13)))))
  clear T3 D3 L3 K3 S3 k13 k3 dw sw hx
  go_wp2_with fail
  go_ret2
  exact ⟨rfl, HG.out⟩
end Go.Proofs.YtlafdmmjbkdkaaaGreatDoor
