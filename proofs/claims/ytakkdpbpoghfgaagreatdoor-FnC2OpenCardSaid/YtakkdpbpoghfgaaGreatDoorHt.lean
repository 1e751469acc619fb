/-
  car.Header.ReadFrom into a car.Reader over an io.SectionReader of 40 bytes from number 11 on: a header's bytes, sound or not, or too few; car.Reader.readV2Header. Conditions: as each contract says.
-/
import Derived.Test.YtakkdpbpoghfgaaGreatDoorHs
namespace Go.Proofs.YtakkdpbpoghfgaaGreatDoor
open Go.RowKit

theorem leNat_lt : ∀ l : List UInt8, Lib.leNat l < 256 ^ l.length
  | [] => by simp [Lib.leNat]
  | b :: t => by
    have := leNat_lt t
    have hb := b.toNat_lt
    simp only [Lib.leNat, List.length_cons, Nat.pow_succ]
    omega
theorem leBytes_leNat : ∀ l : List UInt8, Lib.leBytes l.length (Lib.leNat l) = l
  | [] => rfl
  | b :: t => by
    have ih := leBytes_leNat t
    have hb := b.toNat_lt
    have e : Lib.leNat (b :: t) = b.toNat + 256 * Lib.leNat t := rfl
    have h1 : (b.toNat + 256 * Lib.leNat t) % 256 = b.toNat := by omega
    have h2 : (b.toNat + 256 * Lib.leNat t) / 256 = Lib.leNat t := by omega
    rw [List.length_cons, Lib.leBytes, e, h1, h2, ih]
    congr 1
    simp [Nat.toUInt8]

/-- The numbers of a header that is read. -/
def SoundH (u v z : Int) : Prop := 51 ≤ u ∧ u < 9223372036854775808 ∧ 0 < v ∧ v < 9223372036854775808 ∧ z < 9223372036854775808

/-- What reading the header comes to: the header in the block cr, or an error. -/
def HPost (cr p r : Nat) (x y u v z : Int) (ver : Value) (l : List UInt8) (w : World) (e : Ending) (w' : World) : Prop :=
  Kp [p, cr] w w' ∧
    ((51 ≤ l.length ∧ SoundH u v z ∧ e = .returned (.tuple #[.int .i64 40, .nilIface]) ∧ Blk w' cr 50 (rdC (.int .u64 x) (.int .u64 y) (.int .u64 u) (.int .u64 v) (.int .u64 z) ver r)) ∨
     (¬ (51 ≤ l.length ∧ SoundH u v z) ∧ ∃ (k : Int) (t : TypeId) (a : Value), e = .returned (.tuple #[.int .i64 k, .iface t a])))

set_option maxRecDepth 100000 in
theorem errNew_any (s : ByteArray) (w : World) :
    Calls Tryz.prog 17 #[.string s] w fun e w' => (∃ t a, e = .returned (.iface t a)) ∧ Below w.heap.size w w' := by
  go_enter Tryz.func17, Tryz.ntmps17
  go_wp2_with fail
  go_ret
  exact ⟨⟨_, _, rfl⟩, Old.alloc (Below.refl _ _) _⟩

set_option maxRecDepth 100000 in
set_option maxHeartbeats 4000000 in
theorem headS_full (cr p r g on n c i : Nat) (x y u v z : Int) (l : List UInt8) (a0 a1 a2 a3 a4 ver vE : Value) (w : World) (hx : 0 ≤ x ∧ x < 18446744073709551616) (hy : 0 ≤ y ∧ y < 18446744073709551616)
    (hu : 0 ≤ u ∧ u < 18446744073709551616) (hv : 0 ≤ v ∧ v < 18446744073709551616) (hz : 0 ≤ z ∧ z < 18446744073709551616)
    (hH : Blk w cr 50 (rdC a0 a1 a2 a3 a4 ver r)) (h : Blk w p 103 (secC r 11)) (hr : Rdr w r g on n c i) (hc : Bs w g on l) (hn : n = l.length) (h51 : 51 ≤ n) (hdat : (l.drop 11).take 40 = hdBytes x y u v z) (hnc : n ≤ c) (hl : l.length ≤ 2147483647)
    (hcp : cr ≠ p) (hrp : r ≠ p ∧ r ≠ cr) (hgp : g ≠ p ∧ g ≠ cr) (hgl : g < w.heap.size) (hE : w.cell? ⟨4, 0, none⟩ = some vE) (gE : 4 ≠ p ∧ 4 ≠ cr) :
    Calls Tryz.prog 33 #[.pointer (some ⟨cr, 0, none⟩), .iface 95 (.pointer (some ⟨p, 0, none⟩))] w (HPost cr p r x y u v z ver l w) := by
  have h16 : (l.drop 11).take 16 = Lib.leBytes 8 x.toNat ++ Lib.leBytes 8 y.toNat := by
    have : (l.drop 11).take 16 = ((l.drop 11).take 40).take 16 := by rw [List.take_take]; rfl
    have e : hdBytes x y u v z = Lib.leBytes 8 x.toNat ++ Lib.leBytes 8 y.toNat ++ (Lib.leBytes 8 u.toNat ++ Lib.leBytes 8 v.toNat ++ Lib.leBytes 8 z.toNat) := by simp [hdBytes]
    rw [this, hdat, e, List.take_left' (by simp [Lib.leBytes_length])]
  have h24 : (l.drop 27).take 24 = Lib.leBytes 8 u.toNat ++ Lib.leBytes 8 v.toNat ++ Lib.leBytes 8 z.toNat := by
    have : (l.drop 27).take 24 = ((l.drop 11).take 40).drop 16 := by rw [List.drop_take, List.drop_drop]
    rw [this, hdat]
    have e : hdBytes x y u v z = Lib.leBytes 8 x.toNat ++ Lib.leBytes 8 y.toNat ++ (Lib.leBytes 8 u.toNat ++ Lib.leBytes 8 v.toNat ++ Lib.leBytes 8 z.toNat) := by simp [hdBytes]
    rw [e, List.drop_left' (by simp [Lib.leBytes_length])]
  have hmk := mk_bytes 24 (by omega) 24 rfl
  obtain ⟨zs, hzs⟩ : ∃ zs, List.replicate 24 (Value.int .u8 0) = zs := ⟨_, rfl⟩
  rw [hzs] at hmk
  have hzl : zs.length = 24 := by rw [← hzs]; rfl
  have gEl : 4 < w.heap.size := World.block_lt_of_cell? w _ hE
  have hHl := hH.lt
  have hpl := h.lt
  have hrl := hr.lt
  have hch := charS_full cr p r g on n c i x y l a0 a1 a2 a3 a4 ver vE w hx hy hH h hr hc hn (by omega) h16 hnc hl hcp hE
  have HC := Lib.hid hch
  have HX := Lib.hid (And.intro hu (And.intro hv (And.intro hz (And.intro hn (And.intro h51 (And.intro hnc (And.intro hl (And.intro h24 hzl))))))))
  have HF := Lib.hid (And.intro hr (And.intro hc hE))
  clear hch hx hy hu hv hz hH h hr hc hn h51 hdat hnc hl hE h16 h24 hzl hzs
  go_enter Tryz.func33, Tryz.ntmps33
  go_wp2_with fail
  refine HC.out.mono ?_
  rintro e w1 ⟨rfl, S1, H1, k1⟩
  have s1 := k1.size
  have hc1 := HF.out.2.1.kp k1 (by simp; omega)
  have hr1 : Rdr w1 r g on n c i := by obtain ⟨q, R⟩ := HF.out.1; exact ⟨q, R.kp k1 (by simp; omega)⟩
  have hE1 : w1.cell? ⟨4, 0, none⟩ = some vE := (k1.cell (p := ⟨4, 0, none⟩) gEl (by simp; omega)).trans HF.out.2.2
  obtain ⟨V, hV⟩ : ∃ V, w1.alloc (.cells zs.toArray 5) = V := ⟨_, rfl⟩
  obtain ⟨G, hG⟩ : ∃ G, w1.heap.size = G := ⟨_, rfl⟩
  have bV : Below w1.heap.size w1 V := by rw [← hV]; exact Old.alloc (Below.refl _ _) _
  have BV : Blk V G 5 zs.toArray := by rw [← hV, ← hG]; exact Blk.new w1 5 zs.toArray
  have hf := secFull p r g on n c i 27 G 24 24 l zs 5 vE V (S1.old bV) (hr1.old bV) (hc1.old bV) HX.out.2.2.2.1 (by omega) (by omega) (by have := HX.out.2.2.2.2.1; omega) HX.out.2.2.2.2.2.1 HX.out.2.2.2.2.2.2.1 BV HX.out.2.2.2.2.2.2.2.2 (Nat.le_refl _) (by omega) ((bV.cell (p := ⟨4, 0, none⟩) (by show 4 < _; omega)).trans hE1) (by omega)
  rw [HX.out.2.2.2.2.2.2.2.1] at hf
  have HR := Lib.hid hf
  have HB1 := H1.old bV
  have kV : Kp [p, cr] w V := k1.old bV
  clear hf hc1 hr1 hE1 HC
  go_wp2_with fail
  refine HR.out.mono ?_
  rintro e w2 ⟨rfl, S2, hB2, hK⟩
  have kb2 : Kb w.heap.size [p, cr] w w2 := (show Kb w.heap.size [p, cr] w V from ⟨kV.os, kV.tape, kV.output, kV.size, kV.block⟩).trans (hK w.heap.size [p, cr] (.inl (by simp)) (.inr (by omega)))
  have k2 : Kp [p, cr] w w2 := kb2.kp (by simp)
  have H2 : Blk w2 cr 50 (rdC (.int .u64 x) (.int .u64 y) a2 a3 a4 ver r) := ((hK (cr + 1) [p] (.inl (by simp)) (.inr (by omega))).block cr (by omega) (by simpa using hcp)).trans HB1
  have z2 := hB2.lt
  have hbs := bs_blk hB2
  have hbu := bs_app_left (bs_app_left hbs)
  have hbv := bs_app_right (bs_app_left hbs) (Lib.leBytes_length 8 _)
  have hbz := bs_app_right (k := 16) hbs (by simp [Lib.leBytes_length])
  rw [Nat.zero_add] at hbv hbz
  clear hK HR kb2 hB2 hbs hV bV kV HB1 H1 BV hmk k1 S1 S2
  obtain ⟨U, hU⟩ : ∃ U, IntKind.i64.wrap u = U := ⟨_, rfl⟩
  obtain ⟨V', hV'⟩ : ∃ V', IntKind.i64.wrap v = V' := ⟨_, rfl⟩
  obtain ⟨Z, hZ⟩ : ∃ Z, IntKind.i64.wrap z = Z := ⟨_, rfl⟩
  have HGU := Lib.hid (get64_any G 0 8 24 u w2.drew (Nat.le_refl _) HX.out.1.1 HX.out.1.2 (hbu.drewN 1))
  go_wp2_with fail
  go_region_with (go_at_call 50; refine HGU.out.mono ?_; rintro _ w3 ⟨rfl, b3⟩)
  have b23 : Below w2.heap.size w2 w3 := ((Below.refl _ _).drew).trans b3
  have HGV := Lib.hid (get64_any G 8 8 16 v w3.drew (Nat.le_refl _) HX.out.2.1.1 HX.out.2.1.2 ((hbv.old b23).drewN 1))
  clear HGU b3
  go_wp2_with fail
  go_region_with (go_at_call 50; refine HGV.out.mono ?_; rintro _ w4 ⟨rfl, b4⟩)
  have b24 : Below w2.heap.size w2 w4 := Old.trans b23 (((Below.refl _ _).drew).trans b4)
  have HGZ := Lib.hid (get64_any G 16 8 8 z w4.drew (Nat.le_refl _) HX.out.2.2.1.1 HX.out.2.2.1.2 ((hbz.old b24).drewN 1))
  clear HGV b4
  go_wp2_with fail
  go_region_with (go_at_call 50; refine HGZ.out.mono ?_; rintro _ w5 ⟨rfl, b5⟩)
  have b25 : Below w2.heap.size w2 w5 := Old.trans b24 (((Below.refl _ _).drew).trans b5)
  have H5 := H2.old b25
  have k5 := k2.old b25
  have c2 : w5.cell? ⟨cr, 2, none⟩ = some a2 := H5.cell 2
  have c3 : w5.cell? ⟨cr, 3, none⟩ = some a3 := H5.cell 3
  have c4 : w5.cell? ⟨cr, 4, none⟩ = some a4 := H5.cell 4
  have f2 := H5.frozen 2
  have f3 := H5.frozen 3
  have f4 := H5.frozen 4
  have HQ := Lib.hid (And.intro hU (And.intro hV' hZ))
  have HL : 51 ≤ l.length := by have := HX.out.2.2.2; omega
  clear HGZ b5 b24 b23 b25 H2 k2 hbu hbv hbz
  by_cases hu : U < 51
  · have hdu : decide (U < 51) = true := by simpa using hu
    go_wp2_with fail
    refine (errNew_any _ _).mono ?_
    rintro e w6 ⟨⟨t, a, rfl⟩, b6⟩
    go_wp2_with fail
    go_ret2
    exact ⟨k5.old b6, .inr ⟨fun hs => by
      have h1 := HQ.out.1
      have h2 := hs.2.1
      have h3 := hs.2.2.1
      rw [IntKind.wrap_i64] at h1
      omega, 40, t, a, rfl⟩⟩
  · have hdu : decide (U < 51) = false := by simpa using hu
    by_cases hv : V' ≤ 0
    · have hdv : decide (V' ≤ 0) = true := by simpa using hv
      go_wp2_with fail
      refine (errNew_any _ _).mono ?_
      rintro e w6 ⟨⟨t, a, rfl⟩, b6⟩
      go_wp2_with fail
      go_ret2
      exact ⟨k5.old b6, .inr ⟨fun hs => by
        have h1 := HQ.out.2.1
        have h2 := hs.2.2.2.1
        have h3 := hs.2.2.2.2.1
        rw [IntKind.wrap_i64] at h1
        omega, 40, t, a, rfl⟩⟩
    · have hdv : decide (V' ≤ 0) = false := by simpa using hv
      by_cases hz : Z < 0
      · have hdz : decide (Z < 0) = true := by simpa using hz
        go_wp2_with fail
        refine (errNew_any _ _).mono ?_
        rintro e w6 ⟨⟨t, a, rfl⟩, b6⟩
        go_wp2_with fail
        go_ret2
        exact ⟨k5.old b6, .inr ⟨fun hs => by
          have h1 := HQ.out.2.2
          have h2 := hs.2.2.2.2.2
          have h3 := HX.out.2.2.1.1
          rw [IntKind.wrap_i64] at h1
          omega, 40, t, a, rfl⟩⟩
      · have hdz : decide (Z < 0) = false := by simpa using hz
        have hs : SoundH u v z := by
          obtain ⟨h1, h2, h3⟩ := HQ.out
          obtain ⟨x1, x2, x3, _⟩ := HX.out
          rw [IntKind.wrap_i64] at h1 h2 h3
          refine ⟨?_, ?_, ?_, ?_, ?_⟩ <;> omega
        have HS := Lib.hid hs
        clear hs
        go_wp2_with fail
        go_ret2
        exact ⟨((k5.setCell (p := ⟨cr, 2, none⟩) (.inl (by simp)) _).setCell (p := ⟨cr, 3, none⟩) (.inl (by simp)) _).setCell (p := ⟨cr, 4, none⟩) (.inl (by simp)) _, .inl ⟨HL, HS.out, rfl, ((H5.set_ 2 _).set_ 3 _).set_ 4 _⟩⟩

set_option maxRecDepth 100000 in
set_option maxHeartbeats 4000000 in
theorem headS_short (cr p r g on n c i : Nat) (x y u v z : Int) (l : List UInt8) (a0 a1 a2 a3 a4 ver : Value) (aE aU : Addr) (w : World)
    (hH : Blk w cr 50 (rdC a0 a1 a2 a3 a4 ver r)) (h : Blk w p 103 (secC r 11)) (hr : Rdr w r g on n c i) (hc : Bs w g on l) (hn : n = l.length) (h11 : 11 ≤ n) (h51 : n < 51) (hnc : n ≤ c) (hl : l.length ≤ 2147483647)
    (hcp : cr ≠ p) (hrp : r ≠ p ∧ r ≠ cr) (hgp : g ≠ p ∧ g ≠ cr) (hgl : g < w.heap.size) (hE : Ee w 4 aE) (hU : Ee w 5 aU) (gE : 4 ≠ p ∧ 4 ≠ cr) (gU : 5 ≠ p ∧ 5 ≠ cr) :
    Calls Tryz.prog 33 #[.pointer (some ⟨cr, 0, none⟩), .iface 95 (.pointer (some ⟨p, 0, none⟩))] w (HPost cr p r x y u v z ver l w) := by
  have hno : ¬ (51 ≤ l.length ∧ SoundH u v z) := fun hs => by have := hs.1; omega
  by_cases h27 : n < 27
  · have hch := charS_short cr p r g on n c i l aE aU w h hr hc hn h11 h27 hnc hl hE hU gE.1 gU.1
    have HC := Lib.hid (And.intro hch hno)
    clear hch hH h hr hc hn h51 hnc hl hE hU hno h27 h11
    go_enter Tryz.func33, Tryz.ntmps33
    go_wp2_with fail
    refine HC.out.1.mono ?_
    rintro e w1 ⟨⟨k, a, rfl⟩, k1⟩
    have kk := Lib.hid k1
    clear k1
    go_wp2_with fail
    go_ret2
    exact ⟨kk.out.weaken (by intro i hi; left; simp at hi; simp [hi]), .inr ⟨HC.out.2, k, _, _, rfl⟩⟩
  · have hl16 : ((l.drop 11).take 16).length = 16 := by rw [List.length_take, List.length_drop]; omega
    obtain ⟨X, hX0, hX1, hX⟩ : ∃ X : Int, 0 ≤ X ∧ X < 18446744073709551616 ∧ Lib.leBytes 8 X.toNat = ((l.drop 11).take 16).take 8 := by
      refine ⟨(Lib.leNat (((l.drop 11).take 16).take 8) : Nat), by omega, ?_, ?_⟩
      · have := leNat_lt (((l.drop 11).take 16).take 8)
        rw [List.length_take, hl16] at this
        have h8 : Lib.leNat (((l.drop 11).take 16).take 8) < 256 ^ 8 := this
        omega
      · rw [Int.toNat_natCast]
        have := leBytes_leNat (((l.drop 11).take 16).take 8)
        rw [List.length_take, hl16] at this
        exact this
    obtain ⟨Y, hY0, hY1, hY⟩ : ∃ Y : Int, 0 ≤ Y ∧ Y < 18446744073709551616 ∧ Lib.leBytes 8 Y.toNat = ((l.drop 11).take 16).drop 8 := by
      refine ⟨(Lib.leNat (((l.drop 11).take 16).drop 8) : Nat), by omega, ?_, ?_⟩
      · have := leNat_lt (((l.drop 11).take 16).drop 8)
        rw [List.length_drop, hl16] at this
        have h8 : Lib.leNat (((l.drop 11).take 16).drop 8) < 256 ^ 8 := this
        omega
      · rw [Int.toNat_natCast]
        have := leBytes_leNat (((l.drop 11).take 16).drop 8)
        rw [List.length_drop, hl16] at this
        exact this
    have h16 : (l.drop 11).take 16 = Lib.leBytes 8 X.toNat ++ Lib.leBytes 8 Y.toNat := by rw [hX, hY, List.take_append_drop]
    have hmk := mk_bytes 24 (by omega) 24 rfl
    obtain ⟨zs, hzs⟩ : ∃ zs, List.replicate 24 (Value.int .u8 0) = zs := ⟨_, rfl⟩
    rw [hzs] at hmk
    have hzl : zs.length = 24 := by rw [← hzs]; rfl
    have gEl := hE.lt
    have gUl := hU.lt
    have hHl := hH.lt
    have hpl := h.lt
    have hrl := hr.lt
    have hch := charS_full cr p r g on n c i X Y l a0 a1 a2 a3 a4 ver _ w ⟨hX0, hX1⟩ ⟨hY0, hY1⟩ hH h hr hc hn (by omega) h16 hnc hl hcp hE
    have HC := Lib.hid hch
    have HX := Lib.hid (And.intro hn (And.intro h51 (And.intro hnc (And.intro hl (And.intro h27 (And.intro hzl hno))))))
    have HF := Lib.hid (And.intro hr (And.intro hc (And.intro hE hU)))
    clear hch hX0 hX1 hX hY0 hY1 hY hH h hr hc hn h51 hnc hl hE hU h16 hzl hzs h27 h11 hno hl16
    go_enter Tryz.func33, Tryz.ntmps33
    go_wp2_with fail
    refine HC.out.mono ?_
    rintro e w1 ⟨rfl, S1, H1, k1⟩
    have s1 := k1.size
    have hc1 := HF.out.2.1.kp k1 (by simp; omega)
    have hr1 : Rdr w1 r g on n c i := by obtain ⟨q, R⟩ := HF.out.1; exact ⟨q, R.kp k1 (by simp; omega)⟩
    have hE1 := HF.out.2.2.1.kp k1 (by simp; omega)
    have hU1 := HF.out.2.2.2.kp k1 (by simp; omega)
    obtain ⟨V, hV⟩ : ∃ V, w1.alloc (.cells zs.toArray 5) = V := ⟨_, rfl⟩
    obtain ⟨G, hG⟩ : ∃ G, w1.heap.size = G := ⟨_, rfl⟩
    have bV : Below w1.heap.size w1 V := by rw [← hV]; exact Old.alloc (Below.refl _ _) _
    have BV : Blk V G 5 zs.toArray := by rw [← hV, ← hG]; exact Blk.new w1 5 zs.toArray
    have hf := secShort p r g on n c i 27 G 24 24 l zs 5 aE aU V (S1.old bV) (hr1.old bV) (hc1.old bV) HX.out.1 (by omega) (by omega) (by have := HX.out.2.2.2.2.1; omega) (by have := HX.out.2.1; omega) HX.out.2.2.1 HX.out.2.2.2.1 BV HX.out.2.2.2.2.2.1 (Nat.le_refl _) (by omega) (hE1.old bV) (hU1.old bV) ⟨by omega, gE.1⟩ ⟨by omega, gU.1⟩
    have HR := Lib.hid hf
    have kV : Kp [p, cr] w V := k1.old bV
    clear hf hc1 hr1 hE1 hU1 HC
    go_wp2_with fail
    refine HR.out.mono ?_
    rintro e w2 ⟨⟨k, a, rfl⟩, hK⟩
    have kb2 : Kb w.heap.size [p, cr] w w2 := (show Kb w.heap.size [p, cr] w V from ⟨kV.os, kV.tape, kV.output, kV.size, kV.block⟩).trans (hK w.heap.size [p, cr] (.inl (by simp)) (.inr (by omega)))
    have k2 := Lib.hid (show Kp [p, cr] w w2 from kb2.kp (by simp))
    clear hK HR kb2 hV bV kV H1 BV hmk k1 S1
    go_wp2_with fail
    go_ret2
    exact ⟨k2.out, .inr ⟨HX.out.2.2.2.2.2.2, _, _, _, rfl⟩⟩
end Go.Proofs.YtakkdpbpoghfgaaGreatDoor
