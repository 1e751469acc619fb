/-
  The walks of car.Characteristics.ReadFrom, car.Header.ReadFrom over a bytes.Reader of a sound header's bytes, of impl.C2Read, laws.c2Sound and FnC2Back. Conditions: as each contract says.
-/
import Derived.Test.YtakkdpbpoghfgaaGreatDoorC2B
import Derived.Test.YtakkdpbpoghfgaaGreatDoorRf
namespace Go.Proofs.YtakkdpbpoghfgaaGreatDoor
open Go.RowKit

theorem get64_any (g o n c : Nat) (v : Int) (W : World) (hn : 8 ≤ n) (h0 : 0 ≤ v) (h1 : v < 18446744073709551616) (h : Bs W g o (Lib.leBytes 8 v.toNat)) :
    Calls Tryz.prog 50 #[.agg #[], .slice (some ⟨g, o, none⟩) n c] W fun e w' => e = .returned (.int .u64 v) ∧ Below W.heap.size W w' := by
  obtain ⟨l, hl⟩ : ∃ l, Lib.leBytes 8 v.toNat = l := ⟨_, rfl⟩
  have hll : l.length = 8 := by rw [← hl, Lib.leBytes_length]
  have hv : Lib.leNat l = v.toNat := by rw [← hl]; exact Lib.leNat_leBytes 8 v.toNat (by omega)
  rw [hl] at h
  clear hl
  match l, hll with
  | [b0, b1, b2, b3, b4, b5, b6, b7], _ =>
    have hc := Tryz.binary_LE_Uint64 g o n c b0 b1 b2 b3 b4 b5 b6 b7 W hn (h 0 (by simp)) (h 1 (by simp)) (h 2 (by simp)) (h 3 (by simp)) (h 4 (by simp)) (h 5 (by simp)) (h 6 (by simp)) (h 7 (by simp))
    rw [hv, Int.toNat_of_nonneg h0] at hc
    exact hc

theorem bs_app_left {w : World} {g o : Nat} {a b : List UInt8} (h : Bs w g o (a ++ b)) : Bs w g o a := by
  intro j hj
  have := h j (by rw [List.length_append]; omega)
  rw [List.getElem_append_left hj] at this
  exact this
theorem bs_app_right {w : World} {g o k : Nat} {a b : List UInt8} (h : Bs w g o (a ++ b)) (hk : a.length = k) : Bs w g (o + k) b := by
  intro j hj
  have := h (k + j) (by rw [List.length_append]; omega)
  rw [List.getElem_append_right (by omega)] at this
  simp only [hk, Nat.add_sub_cancel_left] at this
  rw [Nat.add_assoc]
  exact this

set_option maxRecDepth 100000 in
set_option maxHeartbeats 4000000 in
theorem charRead_any (hb r g o n c : Nat) (x y : Int) (rest : List UInt8) (a0 a1 a2 a3 a4 : Value) (aE aU : Addr) (w : World) (hx : 0 ≤ x ∧ x < 18446744073709551616) (hy : 0 ≤ y ∧ y < 18446744073709551616)
    (hH : Blk w hb 40 #[a0, a1, a2, a3, a4]) (h : Rdr w r g o n c 0) (hc : Bs w g o (Lib.leBytes 8 x.toNat ++ Lib.leBytes 8 y.toNat ++ rest)) (hn : n = 16 + rest.length) (hnc : n ≤ c) (hl : n ≤ 2147483647)
    (hhr : hb ≠ r) (hg : g ≠ r) (hglt : g < w.heap.size)
    (hE : Ee w 4 aE) (hU : Ee w 5 aU) (gE : 4 ≠ r) (gU : 5 ≠ r) :
    Calls Tryz.prog 48 #[.pointer (some ⟨hb, 0, none⟩), .iface 59 (.pointer (some ⟨r, 0, none⟩))] w fun e w' =>
      e = .returned (.tuple #[.int .i64 16, .nilIface]) ∧ Rdr w' r g o n c 16 ∧ Blk w' hb 40 #[.int .u64 x, .int .u64 y, a2, a3, a4] ∧ Kp [r, hb] w w' := by
  have hmk := mk_bytes 16 (by omega) 16 rfl
  obtain ⟨zs, hzs⟩ : ∃ zs, List.replicate 16 (Value.int .u8 0) = zs := ⟨_, rfl⟩
  rw [hzs] at hmk
  have hzl : zs.length = 16 := by rw [← hzs]; rfl
  clear hzs
  have HZ := Lib.hid hzl
  clear hzl
  have HX := Lib.hid (And.intro hx (And.intro hy hn))
  clear hx hy hn
  have gEl := hE.lt
  have gUl := hU.lt
  have hHl := hH.lt
  have hrl := h.lt
  obtain ⟨V, hV⟩ : ∃ V, w.alloc (.cells zs.toArray 5) = V := ⟨_, rfl⟩
  obtain ⟨G, hG⟩ : ∃ G, w.heap.size = G := ⟨_, rfl⟩
  have bV : Below w.heap.size w V := by rw [← hV]; exact Old.alloc (Below.refl _ _) _
  have BV : Blk V G 5 ([] ++ zs).toArray := by rw [← hV, ← hG]; simpa using Blk.new w 5 zs.toArray
  have hVR := h.old bV
  have hVc := hc.old bV
  have hVH := hH.old bV
  have hr := readFull_any r g o n c 0 G 0 16 16 (Lib.leBytes 8 x.toNat ++ Lib.leBytes 8 y.toNat ++ rest) [] zs 5 aE aU V hVR hVc (by simp only [List.length_append, Lib.leBytes_length]; exact HX.out.2.2) (Nat.zero_le _) hnc (by simp only [List.length_append, Lib.leBytes_length]; have := HX.out.2.2; omega)
    BV rfl (by rw [HZ.out]; exact Nat.le_refl _) (by omega) (by omega) (by omega) (by omega) hg (hE.old bV) (hU.old bV) ⟨gE, by omega⟩ ⟨gU, by omega⟩
  have HR := Lib.hid hr
  clear hr hVR hVc BV
  go_enter Tryz.func48, Tryz.ntmps48
  go_wp2_with fail
  refine HR.out.mono ?_
  rintro e w1 ⟨hK, h1, _⟩
  obtain ⟨rfl, hR1, hB1⟩ := h1 (by have := HX.out.2.2; omega)
  have kb1 : Kb w.heap.size [r] w w1 := (Kb.of_below bV [r]).trans (hK w.heap.size [r] (.inl (by simp)) (.inr (by omega)))
  have k1 : Kp [r, hb] w w1 := kb1.kp (by simp)
  have H1 : Blk w1 hb 40 #[a0, a1, a2, a3, a4] := hH.kp (kb1.kp (l := [r]) (by simp)) (by simpa using hhr)
  have z1 := hB1.lt
  rw [List.drop_zero, List.nil_append, List.take_append_of_le_length (by simp [Lib.leBytes_length]), List.take_of_length_le (by simp [Lib.leBytes_length]), List.drop_of_length_le (by rw [HZ.out]; exact Nat.le_refl _), List.append_nil] at hB1
  have hbs := bs_blk hB1
  have hbx := bs_app_left hbs
  have hby := bs_app_right hbs (Lib.leBytes_length 8 _)
  have hGh : hb < G := by omega
  clear hK h1 HR kb1 hB1 hbs hV bV hH hVH h hc
  have hg0 := get64_any G 0 8 16 x w1.drew (Nat.le_refl _) HX.out.1.1 HX.out.1.2 (hbx.drewN 1)
  have HG0 := Lib.hid hg0
  have HS := Lib.hid (show ∀ W', Below w1.heap.size w1 W' → Blk W' hb 40 #[a0, a1, a2, a3, a4] ∧ W'.cell? ⟨hb, 0, none⟩ = some a0 ∧ W'.frozen? ⟨hb, 0, none⟩ = false from fun W' hb' => ⟨H1.old hb', (H1.old hb').cell 0, (H1.old hb').frozen 0⟩)
  clear hg0
  go_wp2_with fail
  go_region_with (go_at_call 50; refine HG0.out.mono ?_; rintro _ w2 ⟨rfl, b2⟩; have b12 : Below w1.heap.size w1 w2 := ((Below.refl _ _).drew).trans b2; obtain ⟨H2, c2, f2⟩ := HS.out w2 b12)
  go_wp2_with fail
  have hby2 : Bs w2 G 8 (Lib.leBytes 8 y.toNat) := by have := hby.old b12; rwa [Nat.zero_add] at this
  have R2 := hR1.old b12
  have k2 : Kp [r, hb] w (w2.setCell ⟨hb, 0, none⟩ (.int .u64 x)) := (k1.old b12).setCell (p := ⟨hb, 0, none⟩) (.inl (by simp)) _
  have H3 := H2.set_ 0 (.int .u64 x)
  have hby3 := hby2.far (p := ⟨hb, 0, none⟩) (by show G ≠ hb; omega) (.int .u64 x)
  have R3 : Rdr (w2.setCell ⟨hb, 0, none⟩ (.int .u64 x)) r g o n c (0 + 16) := by
    obtain ⟨p, R2⟩ := R2
    exact ⟨p, R2.far (p := ⟨hb, 0, none⟩) (fun h => hhr h.symm) _⟩
  clear hby2 R2 H2 H1 hR1 k1 hbx hby c2 f2 HS HG0 b12 b2
  generalize w2.setCell ⟨hb, 0, none⟩ (.int .u64 x) = w3 at *
  have hg0 := get64_any G 8 8 8 y w3.drew (Nat.le_refl _) HX.out.2.1.1 HX.out.2.1.2 (hby3.drewN 1)
  have HG0 := Lib.hid hg0
  have HS := Lib.hid (show ∀ W', Below w3.heap.size w3 W' → Blk W' hb 40 #[.int .u64 x, a1, a2, a3, a4] ∧ W'.cell? ⟨hb, 1, none⟩ = some a1 ∧ W'.frozen? ⟨hb, 1, none⟩ = false from fun W' hb' => ⟨H3.old hb', (H3.old hb').cell 1, (H3.old hb').frozen 1⟩)
  clear hg0 hby3
  go_wp2_with fail
  go_region_with (go_at_call 50; refine HG0.out.mono ?_; rintro _ w4 ⟨rfl, b4⟩; have b34 : Below w3.heap.size w3 w4 := ((Below.refl _ _).drew).trans b4; obtain ⟨H4, c4, f4⟩ := HS.out w4 b34)
  go_wp2_with fail
  go_ret2
  have R4 := R3.old b34
  rw [Nat.zero_add] at R4
  refine ⟨rfl, ?_, H4.set_ 1 (.int .u64 y), (k2.old b34).setCell (p := ⟨hb, 1, none⟩) (.inl (by simp)) _⟩
  obtain ⟨p, R4⟩ := R4
  exact ⟨p, R4.far (p := ⟨hb, 1, none⟩) (fun h => hhr h.symm) _⟩

set_option maxRecDepth 100000 in
set_option maxHeartbeats 4000000 in
theorem headRead_any (hb r g o n c : Nat) (x y u v z : Int) (a0 a1 a2 a3 a4 : Value) (aE aU : Addr) (w : World) (hx : 0 ≤ x ∧ x < 18446744073709551616) (hy : 0 ≤ y ∧ y < 18446744073709551616)
    (hu : 51 ≤ u ∧ u < 9223372036854775808) (hv : 0 < v ∧ v < 9223372036854775808) (hz : 0 ≤ z ∧ z < 9223372036854775808)
    (hH : Blk w hb 40 #[a0, a1, a2, a3, a4]) (h : Rdr w r g o n c 0) (hc : Bs w g o (hdBytes x y u v z)) (hn : n = 40) (hnc : n ≤ c)
    (hhr : hb ≠ r) (hg : g ≠ r) (hghb : g ≠ hb) (hglt : g < w.heap.size)
    (hE : Ee w 4 aE) (hU : Ee w 5 aU) (gE : 4 ≠ r ∧ 4 ≠ hb) (gU : 5 ≠ r ∧ 5 ≠ hb) :
    Calls Tryz.prog 33 #[.pointer (some ⟨hb, 0, none⟩), .iface 59 (.pointer (some ⟨r, 0, none⟩))] w fun e w' =>
      e = .returned (.tuple #[.int .i64 40, .nilIface]) ∧ Blk w' hb 40 #[.int .u64 x, .int .u64 y, .int .u64 u, .int .u64 v, .int .u64 z] ∧ Kp [r, hb] w w' := by
  subst hn
  have hmk := mk_bytes 24 (by omega) 24 rfl
  obtain ⟨zs, hzs⟩ : ∃ zs, List.replicate 24 (Value.int .u8 0) = zs := ⟨_, rfl⟩
  rw [hzs] at hmk
  have hzl : zs.length = 24 := by rw [← hzs]; rfl
  clear hzs
  have HZ := Lib.hid hzl
  clear hzl
  have hrest : (Lib.leBytes 8 u.toNat ++ Lib.leBytes 8 v.toNat ++ Lib.leBytes 8 z.toNat).length = 24 := by simp [Lib.leBytes_length]
  have hdb : hdBytes x y u v z = Lib.leBytes 8 x.toNat ++ Lib.leBytes 8 y.toNat ++ (Lib.leBytes 8 u.toNat ++ Lib.leBytes 8 v.toNat ++ Lib.leBytes 8 z.toNat) := by simp [hdBytes]
  have hdl : (hdBytes x y u v z).length = 40 := by simp [hdBytes, Lib.leBytes_length]
  have hch := charRead_any hb r g o 40 c x y _ a0 a1 a2 a3 a4 aE aU w hx hy hH h (by rw [← hdb]; exact hc) (by rw [hrest]) hnc (by omega) hhr hg hglt hE hU gE.1 gU.1
  have HX := Lib.hid (And.intro hx (And.intro hy (And.intro hu (And.intro hv (And.intro hz (And.intro hdl hdb))))))
  have HC := Lib.hid hch
  have gEl := hE.lt
  have gUl := hU.lt
  have hHl := hH.lt
  have hrl := h.lt
  clear hch hx hy hu hv hz hrest hdb hdl hH h
  go_enter Tryz.func33, Tryz.ntmps33
  go_wp2_with fail
  refine HC.out.mono ?_
  rintro e w1 ⟨rfl, R1, H1, k1⟩
  have hc1 := hc.kp k1 (by simp; omega)
  have hE1 := hE.kp k1 (by simp; omega)
  have hU1 := hU.kp k1 (by simp; omega)
  have s1 := k1.size
  obtain ⟨V, hV⟩ : ∃ V, w1.alloc (.cells zs.toArray 5) = V := ⟨_, rfl⟩
  obtain ⟨G, hG⟩ : ∃ G, w1.heap.size = G := ⟨_, rfl⟩
  have bV : Below w1.heap.size w1 V := by rw [← hV]; exact Old.alloc (Below.refl _ _) _
  have BV : Blk V G 5 ([] ++ zs).toArray := by rw [← hV, ← hG]; simpa using Blk.new w1 5 zs.toArray
  have hr := readFull_any r g o 40 c 16 G 0 24 24 (hdBytes x y u v z) [] zs 5 aE aU V (R1.old bV) (hc1.old bV) HX.out.2.2.2.2.2.1.symm (by omega) hnc (by rw [HX.out.2.2.2.2.2.1]; omega)
    BV rfl (by rw [HZ.out]; exact Nat.le_refl _) (by omega) (by omega) (by omega) (by omega) hg (hE1.old bV) (hU1.old bV) ⟨gE.1, by omega⟩ ⟨gU.1, by omega⟩
  have HR := Lib.hid hr
  have HB1 := H1.old bV
  have kV : Kp [r, hb] w V := k1.old bV
  clear hr hc1 hE1 hU1 HC hc
  go_wp2_with fail
  refine HR.out.mono ?_
  rintro e w2 ⟨hK, h1, _⟩
  obtain ⟨rfl, hR2, hB2⟩ := h1 (by omega)
  have kb2 : Kb w.heap.size [r, hb] w w2 := (show Kb w.heap.size [r, hb] w V from ⟨kV.os, kV.tape, kV.output, kV.size, kV.block⟩).trans (hK w.heap.size [r, hb] (.inl (by simp)) (.inr (by omega)))
  have k2 : Kp [r, hb] w w2 := kb2.kp (by simp)
  have H2 : Blk w2 hb 40 #[.int .u64 x, .int .u64 y, a2, a3, a4] := ((hK (hb + 1) [r] (.inl (by simp)) (.inr (by omega))).block hb (by omega) (by simpa using hhr)).trans HB1
  have z2 := hB2.lt
  rw [HX.out.2.2.2.2.2.2, List.drop_left' (by simp [Lib.leBytes_length]), List.nil_append, List.take_of_length_le (by simp [Lib.leBytes_length]), List.drop_of_length_le (by rw [HZ.out]; exact Nat.le_refl _), List.append_nil] at hB2
  have hbs := bs_blk hB2
  have hbu := bs_app_left (bs_app_left hbs)
  have hbv := bs_app_right (bs_app_left hbs) (Lib.leBytes_length 8 _)
  have hbz := bs_app_right (k := 16) hbs (by simp [Lib.leBytes_length])
  rw [Nat.zero_add] at hbv hbz
  clear hK h1 HR kb2 hB2 hbs hV bV kV HB1 H1 hR2 BV hmk k1
  have hwu : IntKind.i64.wrap u = u := by rw [IntKind.wrap_i64]; have := HX.out.2.2.1; omega
  have hwv : IntKind.i64.wrap v = v := by rw [IntKind.wrap_i64]; have := HX.out.2.2.2.1; omega
  have hwz : IntKind.i64.wrap z = z := by rw [IntKind.wrap_i64]; have := HX.out.2.2.2.2.1; omega
  have hdu : decide (u < 51) = false := by have := HX.out.2.2.1; simp; omega
  have hdv : decide (v ≤ 0) = false := by have := HX.out.2.2.2.1; simp; omega
  have hdz : decide (z < 0) = false := by have := HX.out.2.2.2.2.1; simp; omega
  have HGU := Lib.hid (get64_any G 0 8 24 u w2.drew (Nat.le_refl _) (by have := HX.out.2.2.1; omega) (by have := HX.out.2.2.1; omega) (hbu.drewN 1))
  go_wp2_with fail
  go_region_with (go_at_call 50; refine HGU.out.mono ?_; rintro _ w3 ⟨rfl, b3⟩)
  have b23 : Below w2.heap.size w2 w3 := ((Below.refl _ _).drew).trans b3
  have HGV := Lib.hid (get64_any G 8 8 16 v w3.drew (Nat.le_refl _) (by have := HX.out.2.2.2.1; omega) (by have := HX.out.2.2.2.1; omega) ((hbv.old b23).drewN 1))
  clear HGU b3
  go_wp2_with fail
  go_region_with (go_at_call 50; refine HGV.out.mono ?_; rintro _ w4 ⟨rfl, b4⟩)
  have b24 : Below w2.heap.size w2 w4 := Old.trans b23 (((Below.refl _ _).drew).trans b4)
  have HGZ := Lib.hid (get64_any G 16 8 8 z w4.drew (Nat.le_refl _) (by have := HX.out.2.2.2.2.1; omega) (by have := HX.out.2.2.2.2.1; omega) ((hbz.old b24).drewN 1))
  clear HGV b4
  go_wp2_with fail
  go_region_with (go_at_call 50; refine HGZ.out.mono ?_; rintro _ w5 ⟨rfl, b5⟩)
  have b25 : Below w2.heap.size w2 w5 := Old.trans b24 (((Below.refl _ _).drew).trans b5)
  have H5 := H2.old b25
  have k5 := k2.old b25
  have c2 : w5.cell? ⟨hb, 2, none⟩ = some a2 := H5.cell 2
  have c3 : w5.cell? ⟨hb, 3, none⟩ = some a3 := H5.cell 3
  have c4 : w5.cell? ⟨hb, 4, none⟩ = some a4 := H5.cell 4
  have f2 := H5.frozen 2
  have f3 := H5.frozen 3
  have f4 := H5.frozen 4
  clear HGZ b5 b24 b23 b25 H2 k2 hbu hbv hbz
  go_wp2_with fail
  go_ret2
  exact ⟨rfl, ((H5.set_ 2 _).set_ 3 _).set_ 4 _, ((k5.setCell (p := ⟨hb, 2, none⟩) (.inl (by simp)) _).setCell (p := ⟨hb, 3, none⟩) (.inl (by simp)) _).setCell (p := ⟨hb, 4, none⟩) (.inl (by simp)) _⟩

set_option maxRecDepth 100000 in
set_option maxHeartbeats 4000000 in
theorem c2Sound_any (x y u v z : Int) (w : World) :
    Calls Tryz.prog 7 #[.agg #[.int .u64 x, .int .u64 y, .int .u64 u, .int .u64 v, .int .u64 z]] w fun e w' =>
      e = .returned (.bool (decide (51 ≤ u) && decide (u < 9223372036854775808) && decide (0 < v) && decide (v < 9223372036854775808) && decide (z < 9223372036854775808))) ∧ Below w.heap.size w w' := by
  go_enter Tryz.func7, Tryz.ntmps7
  go_wp2_with fail
  all_goals go_ret
  all_goals refine ⟨?_, (Below.refl _ _).alloc (Nat.le_refl _) _⟩
  all_goals simp_all
  all_goals omega

end Go.Proofs.YtakkdpbpoghfgaaGreatDoor
