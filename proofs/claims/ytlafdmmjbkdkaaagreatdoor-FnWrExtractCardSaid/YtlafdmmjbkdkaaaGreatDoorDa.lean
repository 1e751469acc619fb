/-
  car.Header.ReadFrom over a bytes.Reader that stands anywhere in its text. Conditions: as each contract says.
-/
import Derived.Test.YtlafdmmjbkdkaaaGreatDoorJC2Small
namespace Go.Proofs.YtlafdmmjbkdkaaaGreatDoor
open Go.RowKit

set_option maxRecDepth 100000 in
set_option maxHeartbeats 4000000 in
theorem charReadI (hb r g o n c i : Nat) (x y : Int) (l : List UInt8) (a0 a1 a2 a3 a4 : Value) (aE aU : Addr) (w : World) (hx : 0 ≤ x ∧ x < 18446744073709551616) (hy : 0 ≤ y ∧ y < 18446744073709551616)
    (hH : Blk w hb 77 #[a0, a1, a2, a3, a4]) (h : Rdr w r g o n c i) (hc : Bs w g o l) (hd16 : (l.drop i).take 16 = Lib.leBytes 8 x.toNat ++ Lib.leBytes 8 y.toNat) (hn : n = l.length) (hi : i + 16 ≤ n) (hnc : n ≤ c) (hl : n ≤ 2147483647)
    (hhr : hb ≠ r) (hg : g ≠ r) (hglt : g < w.heap.size)
    (hE : Ee w 2 aE) (hU : Ee w 7 aU) (gE : 2 ≠ r) (gU : 7 ≠ r) :
    Calls Tryz.prog 50 #[.pointer (some ⟨hb, 0, none⟩), .iface 51 (.pointer (some ⟨r, 0, none⟩))] w fun e w' =>
      e = .returned (.tuple #[.int .i64 16, .nilIface]) ∧ Rdr w' r g o n c (i + 16) ∧ Blk w' hb 77 #[.int .u64 x, .int .u64 y, a2, a3, a4] ∧ Kp [r, hb] w w' := by
  have hmk := mk_bytes 16 (by omega) 16 rfl
  obtain ⟨zs, hzs⟩ : ∃ zs, List.replicate 16 (Value.int .u8 0) = zs := ⟨_, rfl⟩
  rw [hzs] at hmk
  have hzl : zs.length = 16 := by rw [← hzs]; rfl
  clear hzs
  have HZ := Lib.hid hzl
  clear hzl
  have HX := Lib.hid (And.intro hx (And.intro hy (And.intro hi hd16)))
  clear hx hy hd16
  have gEl := hE.lt
  have gUl := hU.lt
  have hHl := hH.lt
  have hrl := h.lt
  obtain ⟨V, hV⟩ : ∃ V, w.alloc (.cells zs.toArray 5) = V := ⟨_, rfl⟩
  obtain ⟨G, hG⟩ : ∃ G, w.heap.size = G := ⟨_, rfl⟩
  have bV : Below w.heap.size w V := by rw [← hV]; exact Old.alloc (Below.refl _ _) _
  have BV : Blk V G 5 ([] ++ zs).toArray := by rw [← hV, ← hG]; simpa using Blk.new w 5 zs.toArray
  have hVR := h.old bV
  have hVc := hc.old bV
  have hVH := hH.old bV
  have hr := readFull_any r g o n c i G 0 16 16 l [] zs 5 aE aU V hVR hVc hn (by omega) hnc (by omega)
    BV rfl (by rw [HZ.out]; exact Nat.le_refl _) (by omega) (by omega) (by omega) (by omega) hg (hE.old bV) (hU.old bV) ⟨gE, by omega⟩ ⟨gU, by omega⟩
  have HR := Lib.hid hr
  clear hr hVR hVc BV
  go_enter Tryz.func50, Tryz.ntmps50
  go_wp2_with fail
  refine HR.out.mono ?_
  rintro e w1 ⟨hK, h1, _⟩
  obtain ⟨rfl, hR1, hB1⟩ := h1 (by omega)
  have kb1 : Kb w.heap.size [r] w w1 := (Kb.of_below bV [r]).trans (hK w.heap.size [r] (.inl (by simp)) (.inr (by omega)))
  have k1 : Kp [r, hb] w w1 := kb1.kp (by simp)
  have H1 : Blk w1 hb 77 #[a0, a1, a2, a3, a4] := hH.kp (kb1.kp (l := [r]) (by simp)) (by simpa using hhr)
  have z1 := hB1.lt
  rw [List.nil_append, HX.out.2.2.2, List.drop_of_length_le (by rw [HZ.out]; exact Nat.le_refl _), List.append_nil] at hB1
  have hbs := bs_blk hB1
  have hbx := bs_app_left hbs
  have hby := bs_app_right hbs (Lib.leBytes_length 8 _)
  have hGh : hb < G := by omega
  clear hK h1 HR kb1 hB1 hbs hV bV hH hVH h hc hn hi hl
  have hg0 := get64_any G 0 8 16 x w1.drew (Nat.le_refl _) HX.out.1.1 HX.out.1.2 (hbx.drewN 1)
  have HG0 := Lib.hid hg0
  have HS := Lib.hid (show ∀ W', Below w1.heap.size w1 W' → Blk W' hb 77 #[a0, a1, a2, a3, a4] ∧ W'.cell? ⟨hb, 0, none⟩ = some a0 ∧ W'.frozen? ⟨hb, 0, none⟩ = false from fun W' hb' => ⟨H1.old hb', (H1.old hb').cell 0, (H1.old hb').frozen 0⟩)
  clear hg0
  go_wp2_with fail
  go_region_with (go_at_call 52; refine HG0.out.mono ?_; rintro _ w2 ⟨rfl, b2⟩; have b12 : Below w1.heap.size w1 w2 := ((Below.refl _ _).drew).trans b2; obtain ⟨H2, c2, f2⟩ := HS.out w2 b12)
  go_wp2_with fail
  have hby2 : Bs w2 G 8 (Lib.leBytes 8 y.toNat) := by have := hby.old b12; rwa [Nat.zero_add] at this
  have R2 := hR1.old b12
  have k2 : Kp [r, hb] w (w2.setCell ⟨hb, 0, none⟩ (.int .u64 x)) := (k1.old b12).setCell (p := ⟨hb, 0, none⟩) (.inl (by simp)) _
  have H3 := H2.set_ 0 (.int .u64 x)
  have hby3 := hby2.far (p := ⟨hb, 0, none⟩) (by show G ≠ hb; omega) (.int .u64 x)
  have R3 : Rdr (w2.setCell ⟨hb, 0, none⟩ (.int .u64 x)) r g o n c (i + 16) := by
    obtain ⟨p, R2⟩ := R2
    exact ⟨p, R2.far (p := ⟨hb, 0, none⟩) (fun h => hhr h.symm) _⟩
  clear hby2 R2 H2 H1 hR1 k1 hbx hby c2 f2 HS HG0 b12 b2
  generalize w2.setCell ⟨hb, 0, none⟩ (.int .u64 x) = w3 at *
  have hg0 := get64_any G 8 8 8 y w3.drew (Nat.le_refl _) HX.out.2.1.1 HX.out.2.1.2 (hby3.drewN 1)
  have HG0 := Lib.hid hg0
  have HS := Lib.hid (show ∀ W', Below w3.heap.size w3 W' → Blk W' hb 77 #[.int .u64 x, a1, a2, a3, a4] ∧ W'.cell? ⟨hb, 1, none⟩ = some a1 ∧ W'.frozen? ⟨hb, 1, none⟩ = false from fun W' hb' => ⟨H3.old hb', (H3.old hb').cell 1, (H3.old hb').frozen 1⟩)
  clear hg0 hby3
  go_wp2_with fail
  go_region_with (go_at_call 52; refine HG0.out.mono ?_; rintro _ w4 ⟨rfl, b4⟩; have b34 : Below w3.heap.size w3 w4 := ((Below.refl _ _).drew).trans b4; obtain ⟨H4, c4, f4⟩ := HS.out w4 b34)
  go_wp2_with fail
  go_ret2
  have R4 := R3.old b34
  refine ⟨rfl, ?_, H4.set_ 1 (.int .u64 y), (k2.old b34).setCell (p := ⟨hb, 1, none⟩) (.inl (by simp)) _⟩
  obtain ⟨p, R4⟩ := R4
  exact ⟨p, R4.far (p := ⟨hb, 1, none⟩) (fun h => hhr h.symm) _⟩

set_option maxRecDepth 100000 in
set_option maxHeartbeats 4000000 in
theorem headReadI (hb r g o n c i : Nat) (x y u v z : Int) (l : List UInt8) (a0 a1 a2 a3 a4 : Value) (aE aU : Addr) (w : World) (hx : 0 ≤ x ∧ x < 18446744073709551616) (hy : 0 ≤ y ∧ y < 18446744073709551616)
    (hu : 51 ≤ u ∧ u < 9223372036854775808) (hv : 0 < v ∧ v < 9223372036854775808) (hz : 0 ≤ z ∧ z < 9223372036854775808)
    (hH : Blk w hb 77 #[a0, a1, a2, a3, a4]) (h : Rdr w r g o n c i) (hc : Bs w g o l) (hd40 : (l.drop i).take 40 = hdBytes x y u v z) (hn : n = l.length) (hi : i + 40 ≤ n) (hnc : n ≤ c) (hl : n ≤ 2147483647)
    (hhr : hb ≠ r) (hg : g ≠ r) (hghb : g ≠ hb) (hglt : g < w.heap.size)
    (hE : Ee w 2 aE) (hU : Ee w 7 aU) (gE : 2 ≠ r ∧ 2 ≠ hb) (gU : 7 ≠ r ∧ 7 ≠ hb) :
    Calls Tryz.prog 30 #[.pointer (some ⟨hb, 0, none⟩), .iface 51 (.pointer (some ⟨r, 0, none⟩))] w fun e w' =>
      e = .returned (.tuple #[.int .i64 40, .nilIface]) ∧ Rdr w' r g o n c (i + 40) ∧ Blk w' hb 77 #[.int .u64 x, .int .u64 y, .int .u64 u, .int .u64 v, .int .u64 z] ∧ Kp [r, hb] w w' := by
  have hmk := mk_bytes 24 (by omega) 24 rfl
  obtain ⟨zs, hzs⟩ : ∃ zs, List.replicate 24 (Value.int .u8 0) = zs := ⟨_, rfl⟩
  rw [hzs] at hmk
  have hzl : zs.length = 24 := by rw [← hzs]; rfl
  clear hzs
  have HZ := Lib.hid hzl
  clear hzl
  have h16 : (l.drop i).take 16 = Lib.leBytes 8 x.toNat ++ Lib.leBytes 8 y.toNat := by
    have := congrArg (List.take 16) hd40
    rw [List.take_take] at this
    rw [show min 16 40 = 16 from rfl] at this
    rw [this]
    unfold hdBytes
    simp only [List.append_assoc]
    rw [← List.append_assoc, List.take_append_of_le_length (by simp [Lib.leBytes_length]), List.take_of_length_le (by simp [Lib.leBytes_length])]
  have h24 : (l.drop (i + 16)).take 24 = Lib.leBytes 8 u.toNat ++ Lib.leBytes 8 v.toNat ++ Lib.leBytes 8 z.toNat := by
    have := congrArg (List.drop 16) hd40
    rw [List.drop_take, List.drop_drop] at this
    rw [show 40 - 16 = 24 from rfl] at this
    rw [this]
    unfold hdBytes
    simp only [List.append_assoc]
    rw [← List.append_assoc, List.drop_left' (by simp [Lib.leBytes_length])]
  have hch := charReadI hb r g o n c i x y l a0 a1 a2 a3 a4 aE aU w hx hy hH h hc h16 hn (by omega) hnc hl hhr hg hglt hE hU gE.1 gU.1
  have HX := Lib.hid (And.intro hx (And.intro hy (And.intro hu (And.intro hv (And.intro hz h24)))))
  have HC := Lib.hid hch
  have gEl := hE.lt
  have gUl := hU.lt
  have hHl := hH.lt
  have hrl := h.lt
  clear hch hx hy hu hv hz h16 h24 hd40 hH h
  go_enter Tryz.func30, Tryz.ntmps30
  go_wp2_with fail
  refine HC.out.mono ?_
  rintro e w1 ⟨rfl, R1, H1, k1⟩
  have hc1 := hc.kp k1 (by simp; omega)
  have hE1 := hE.kp k1 (by simp; omega)
  have hU1 := hU.kp k1 (by simp; omega)
  have s1 := k1.size
  obtain ⟨V, hV⟩ : ∃ V, w1.alloc (.cells zs.toArray 5) = V := ⟨_, rfl⟩
  obtain ⟨G, hG⟩ : ∃ G, w1.heap.size = G := ⟨_, rfl⟩
  have bV : Below w1.heap.size w1 V := by rw [← hV]; exact Old.alloc (Below.refl _ _) _
  have BV : Blk V G 5 ([] ++ zs).toArray := by rw [← hV, ← hG]; simpa using Blk.new w1 5 zs.toArray
  have hr := readFull_any r g o n c (i + 16) G 0 24 24 l [] zs 5 aE aU V (R1.old bV) (hc1.old bV) hn (by omega) hnc (by omega)
    BV rfl (by rw [HZ.out]; exact Nat.le_refl _) (by omega) (by omega) (by omega) (by omega) hg (hE1.old bV) (hU1.old bV) ⟨gE.1, by omega⟩ ⟨gU.1, by omega⟩
  have HR := Lib.hid hr
  have HB1 := H1.old bV
  have kV : Kp [r, hb] w V := k1.old bV
  clear hr hc1 hE1 hU1 HC hc
  go_wp2_with fail
  refine HR.out.mono ?_
  rintro e w2 ⟨hK, h1, _⟩
  obtain ⟨rfl, hR2, hB2⟩ := h1 (by omega)
  have kb2 : Kb w.heap.size [r, hb] w w2 := (show Kb w.heap.size [r, hb] w V from ⟨kV.os, kV.tape, kV.output, kV.size, kV.block⟩).trans (hK w.heap.size [r, hb] (.inl (by simp)) (.inr (by omega)))
  have k2 : Kp [r, hb] w w2 := kb2.kp (by simp)
  have H2 : Blk w2 hb 77 #[.int .u64 x, .int .u64 y, a2, a3, a4] := ((hK (hb + 1) [r] (.inl (by simp)) (.inr (by omega))).block hb (by omega) (by simpa using hhr)).trans HB1
  have z2 := hB2.lt
  rw [List.nil_append, HX.out.2.2.2.2.2, List.drop_of_length_le (by rw [HZ.out]; exact Nat.le_refl _), List.append_nil] at hB2
  have hbs := bs_blk hB2
  have hbu := bs_app_left (bs_app_left hbs)
  have hbv := bs_app_right (bs_app_left hbs) (Lib.leBytes_length 8 _)
  have hbz := bs_app_right (k := 16) hbs (by simp [Lib.leBytes_length])
  rw [Nat.zero_add] at hbv hbz
  rw [show i + 16 + 24 = i + 40 from rfl] at hR2
  clear hK h1 HR kb2 hB2 hbs hV bV kV HB1 H1 BV hmk k1 hn hi hl
  have hwu : IntKind.i64.wrap u = u := by rw [IntKind.wrap_i64]; have := HX.out.2.2.1; omega
  have hwv : IntKind.i64.wrap v = v := by rw [IntKind.wrap_i64]; have := HX.out.2.2.2.1; omega
  have hwz : IntKind.i64.wrap z = z := by rw [IntKind.wrap_i64]; have := HX.out.2.2.2.2.1; omega
  have hdu : decide (u < 51) = false := by have := HX.out.2.2.1; simp; omega
  have hdv : decide (v ≤ 0) = false := by have := HX.out.2.2.2.1; simp; omega
  have hdz : decide (z < 0) = false := by have := HX.out.2.2.2.2.1; simp; omega
  have HGU := Lib.hid (get64_any G 0 8 24 u w2.drew (Nat.le_refl _) (by have := HX.out.2.2.1; omega) (by have := HX.out.2.2.1; omega) (hbu.drewN 1))
  go_wp2_with fail
  go_region_with (go_at_call 52; refine HGU.out.mono ?_; rintro _ w3 ⟨rfl, b3⟩)
  have b23 : Below w2.heap.size w2 w3 := ((Below.refl _ _).drew).trans b3
  have HGV := Lib.hid (get64_any G 8 8 16 v w3.drew (Nat.le_refl _) (by have := HX.out.2.2.2.1; omega) (by have := HX.out.2.2.2.1; omega) ((hbv.old b23).drewN 1))
  clear HGU b3
  go_wp2_with fail
  go_region_with (go_at_call 52; refine HGV.out.mono ?_; rintro _ w4 ⟨rfl, b4⟩)
  have b24 : Below w2.heap.size w2 w4 := Old.trans b23 (((Below.refl _ _).drew).trans b4)
  have HGZ := Lib.hid (get64_any G 16 8 8 z w4.drew (Nat.le_refl _) (by have := HX.out.2.2.2.2.1; omega) (by have := HX.out.2.2.2.2.1; omega) ((hbz.old b24).drewN 1))
  clear HGV b4
  go_wp2_with fail
  go_region_with (go_at_call 52; refine HGZ.out.mono ?_; rintro _ w5 ⟨rfl, b5⟩)
  have b25 : Below w2.heap.size w2 w5 := Old.trans b24 (((Below.refl _ _).drew).trans b5)
  have H5 := H2.old b25
  have k5 := k2.old b25
  have R5 := hR2.old b25
  clear hR2
  have c2 : w5.cell? ⟨hb, 2, none⟩ = some a2 := H5.cell 2
  have c3 : w5.cell? ⟨hb, 3, none⟩ = some a3 := H5.cell 3
  have c4 : w5.cell? ⟨hb, 4, none⟩ = some a4 := H5.cell 4
  have f2 := H5.frozen 2
  have f3 := H5.frozen 3
  have f4 := H5.frozen 4
  clear HGZ b5 b24 b23 b25 H2 k2 hbu hbv hbz
  go_wp2_with fail
  go_ret2
  refine ⟨rfl, ?_, ((H5.set_ 2 _).set_ 3 _).set_ 4 _, ((k5.setCell (p := ⟨hb, 2, none⟩) (.inl (by simp)) _).setCell (p := ⟨hb, 3, none⟩) (.inl (by simp)) _).setCell (p := ⟨hb, 4, none⟩) (.inl (by simp)) _⟩
  obtain ⟨p, R5⟩ := R5
  exact ⟨p, ((R5.far (p := ⟨hb, 2, none⟩) (fun h => hhr h.symm) _).far (p := ⟨hb, 3, none⟩) (fun h => hhr h.symm) _).far (p := ⟨hb, 4, none⟩) (fun h => hhr h.symm) _⟩
end Go.Proofs.YtlafdmmjbkdkaaaGreatDoor
