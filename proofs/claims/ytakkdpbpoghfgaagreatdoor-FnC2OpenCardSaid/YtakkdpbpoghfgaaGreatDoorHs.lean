/-
  car.Characteristics.ReadFrom and car.Header.ReadFrom into a car.Reader over an io.SectionReader of 40 bytes from number 11 on: a sound header's bytes, an unsound one's, too few. Conditions: as each contract says.
-/
import Derived.Test.YtakkdpbpoghfgaaGreatDoorSy
import Derived.Test.YtakkdpbpoghfgaaGreatDoorC2R
import Derived.Test.YtakkdpbpoghfgaaGreatDoorOb
namespace Go.Proofs.YtakkdpbpoghfgaaGreatDoor
open Go.RowKit

/-- The cells of a car.Reader over the bytes.Reader in block r. -/
def rdC (a0 a1 a2 a3 a4 ver : Value) (r : Nat) : Array Value := #[a0, a1, a2, a3, a4, ver, .iface 59 (.pointer (some ⟨r, 0, none⟩)), .slice none 0 0, .int .u64 0, .int .u64 0, .int .u64 1025, .bool false, .int .u64 2048, .bool false, .bool false, .bool false, .int .u64 9223372036854775807, .bool false, .bool false, .int .u64 33554432, .int .u64 8388608, .nilIface]

set_option maxRecDepth 100000 in
set_option maxHeartbeats 4000000 in
theorem charS_full (cr p r g on n c i : Nat) (x y : Int) (l : List UInt8) (a0 a1 a2 a3 a4 ver vE : Value) (w : World) (hx : 0 ≤ x ∧ x < 18446744073709551616) (hy : 0 ≤ y ∧ y < 18446744073709551616)
    (hH : Blk w cr 50 (rdC a0 a1 a2 a3 a4 ver r)) (h : Blk w p 103 (secC r 11)) (hr : Rdr w r g on n c i) (hc : Bs w g on l) (hn : n = l.length) (hfit : 27 ≤ n) (hdat : (l.drop 11).take 16 = Lib.leBytes 8 x.toNat ++ Lib.leBytes 8 y.toNat) (hnc : n ≤ c) (hl : l.length ≤ 2147483647)
    (hcp : cr ≠ p) (hE : w.cell? ⟨4, 0, none⟩ = some vE) :
    Calls Tryz.prog 48 #[.pointer (some ⟨cr, 0, none⟩), .iface 95 (.pointer (some ⟨p, 0, none⟩))] w fun e w' =>
      e = .returned (.tuple #[.int .i64 16, .nilIface]) ∧ Blk w' p 103 (secC r 27) ∧ Blk w' cr 50 (rdC (.int .u64 x) (.int .u64 y) a2 a3 a4 ver r) ∧ Kp [p, cr] w w' := by
  have hmk := mk_bytes 16 (by omega) 16 rfl
  obtain ⟨zs, hzs⟩ : ∃ zs, List.replicate 16 (Value.int .u8 0) = zs := ⟨_, rfl⟩
  rw [hzs] at hmk
  have hzl : zs.length = 16 := by rw [← hzs]; rfl
  have gEl : 4 < w.heap.size := World.block_lt_of_cell? w _ hE
  have hHl := hH.lt
  have hpl := h.lt
  obtain ⟨V, hV⟩ : ∃ V, w.alloc (.cells zs.toArray 5) = V := ⟨_, rfl⟩
  obtain ⟨G, hG⟩ : ∃ G, w.heap.size = G := ⟨_, rfl⟩
  have bV : Below w.heap.size w V := by rw [← hV]; exact Old.alloc (Below.refl _ _) _
  have BV : Blk V G 5 zs.toArray := by rw [← hV, ← hG]; exact Blk.new w 5 zs.toArray
  have hf := secFull p r g on n c i 11 G 16 16 l zs 5 vE V (h.old bV) (hr.old bV) (hc.old bV) hn (by omega) (by omega) (by omega) hnc hl BV hzl (Nat.le_refl _) (by omega) ((bV.cell (p := ⟨4, 0, none⟩) gEl).trans hE) (by omega)
  rw [hdat] at hf
  have HR := Lib.hid hf
  have HX := Lib.hid (And.intro hx (And.intro hy hH))
  clear hf hx hy h hr hc hn hdat hfit hl hnc hzl hzs BV hE gEl
  go_enter Tryz.func48, Tryz.ntmps48
  go_wp2_with fail
  refine HR.out.mono ?_
  rintro e w1 ⟨rfl, S1, hB1, hK⟩
  have kb1 : Kb w.heap.size [p] w w1 := (Kb.of_below bV [p]).trans (hK w.heap.size [p] (.inl (by simp)) (.inr (by omega)))
  have k1 : Kp [p, cr] w w1 := kb1.kp (by simp)
  have H1 : Blk w1 cr 50 (rdC a0 a1 a2 a3 a4 ver r) := HX.out.2.2.kp (kb1.kp (l := [p]) (by simp)) (by simpa using hcp)
  have z1 := hB1.lt
  have hbs := bs_blk hB1
  have hbx := bs_app_left hbs
  have hby := bs_app_right hbs (Lib.leBytes_length 8 _)
  have hGh : cr < G := by omega
  clear hK HR kb1 hB1 hbs hV bV hH
  have hg0 := get64_any G 0 8 16 x w1.drew (Nat.le_refl _) HX.out.1.1 HX.out.1.2 (hbx.drewN 1)
  have HG0 := Lib.hid hg0
  have HS := Lib.hid (show ∀ W', Below w1.heap.size w1 W' → Blk W' cr 50 (rdC a0 a1 a2 a3 a4 ver r) ∧ W'.cell? ⟨cr, 0, none⟩ = some a0 ∧ W'.frozen? ⟨cr, 0, none⟩ = false from fun W' hb' => ⟨H1.old hb', (H1.old hb').cell 0, (H1.old hb').frozen 0⟩)
  clear hg0
  go_wp2_with fail
  go_region_with (go_at_call 50; refine HG0.out.mono ?_; rintro _ w2 ⟨rfl, b2⟩; have b12 : Below w1.heap.size w1 w2 := ((Below.refl _ _).drew).trans b2; obtain ⟨H2, c2, f2⟩ := HS.out w2 b12)
  go_wp2_with fail
  have hby2 : Bs w2 G 8 (Lib.leBytes 8 y.toNat) := by have := hby.old b12; rwa [Nat.zero_add] at this
  have S2 := S1.old b12
  have k2 : Kp [p, cr] w (w2.setCell ⟨cr, 0, none⟩ (.int .u64 x)) := (k1.old b12).setCell (p := ⟨cr, 0, none⟩) (.inl (by simp)) _
  have H3 : Blk (w2.setCell ⟨cr, 0, none⟩ (.int .u64 x)) cr 50 (rdC (.int .u64 x) a1 a2 a3 a4 ver r) := H2.set_ 0 (.int .u64 x)
  have hby3 := hby2.far (p := ⟨cr, 0, none⟩) (by show G ≠ cr; omega) (.int .u64 x)
  have S3 := S2.far (p := ⟨cr, 0, none⟩) (fun h => hcp h.symm) (.int .u64 x)
  clear hby2 S2 H2 H1 S1 k1 hbx hby c2 f2 HS HG0 b12 b2
  generalize w2.setCell ⟨cr, 0, none⟩ (.int .u64 x) = w3 at *
  have hg0 := get64_any G 8 8 8 y w3.drew (Nat.le_refl _) HX.out.2.1.1 HX.out.2.1.2 (hby3.drewN 1)
  have HG0 := Lib.hid hg0
  have HS := Lib.hid (show ∀ W', Below w3.heap.size w3 W' → Blk W' cr 50 (rdC (.int .u64 x) a1 a2 a3 a4 ver r) ∧ W'.cell? ⟨cr, 1, none⟩ = some a1 ∧ W'.frozen? ⟨cr, 1, none⟩ = false from fun W' hb' => ⟨H3.old hb', (H3.old hb').cell 1, (H3.old hb').frozen 1⟩)
  clear hg0 hby3
  go_wp2_with fail
  go_region_with (go_at_call 50; refine HG0.out.mono ?_; rintro _ w4 ⟨rfl, b4⟩; have b34 : Below w3.heap.size w3 w4 := ((Below.refl _ _).drew).trans b4; obtain ⟨H4, c4, f4⟩ := HS.out w4 b34)
  go_wp2_with fail
  go_ret2
  exact ⟨rfl, (S3.old b34).far (p := ⟨cr, 1, none⟩) (fun h => hcp h.symm) _, H4.set_ 1 (.int .u64 y), (k2.old b34).setCell (p := ⟨cr, 1, none⟩) (.inl (by simp)) _⟩

set_option maxRecDepth 100000 in
set_option maxHeartbeats 4000000 in
theorem charS_short (cr p r g on n c i : Nat) (l : List UInt8) (aE aU : Addr) (w : World)
    (h : Blk w p 103 (secC r 11)) (hr : Rdr w r g on n c i) (hc : Bs w g on l) (hn : n = l.length) (h11 : 11 ≤ n) (hfit : n < 27) (hnc : n ≤ c) (hl : l.length ≤ 2147483647)
    (hE : Ee w 4 aE) (hU : Ee w 5 aU) (gE : 4 ≠ p) (gU : 5 ≠ p) :
    Calls Tryz.prog 48 #[.pointer (some ⟨cr, 0, none⟩), .iface 95 (.pointer (some ⟨p, 0, none⟩))] w fun e w' =>
      (∃ (k : Int) (a : Addr), e = .returned (.tuple #[.int .i64 k, .iface 92 (.pointer (some a))])) ∧ Kp [p] w w' := by
  have hmk := mk_bytes 16 (by omega) 16 rfl
  obtain ⟨zs, hzs⟩ : ∃ zs, List.replicate 16 (Value.int .u8 0) = zs := ⟨_, rfl⟩
  rw [hzs] at hmk
  have hzl : zs.length = 16 := by rw [← hzs]; rfl
  have gEl := hE.lt
  have gUl := hU.lt
  have hpl := h.lt
  obtain ⟨V, hV⟩ : ∃ V, w.alloc (.cells zs.toArray 5) = V := ⟨_, rfl⟩
  obtain ⟨G, hG⟩ : ∃ G, w.heap.size = G := ⟨_, rfl⟩
  have bV : Below w.heap.size w V := by rw [← hV]; exact Old.alloc (Below.refl _ _) _
  have BV : Blk V G 5 zs.toArray := by rw [← hV, ← hG]; exact Blk.new w 5 zs.toArray
  have hf := secShort p r g on n c i 11 G 16 16 l zs 5 aE aU V (h.old bV) (hr.old bV) (hc.old bV) hn (by omega) (by omega) h11 (by omega) hnc hl BV hzl (Nat.le_refl _) (by omega) (hE.old bV) (hU.old bV) ⟨by omega, gE⟩ ⟨by omega, gU⟩
  have HR := Lib.hid hf
  clear hf h hr hc hn hfit hl hnc hzl hzs BV hE hU
  go_enter Tryz.func48, Tryz.ntmps48
  go_wp2_with fail
  refine HR.out.mono ?_
  rintro e w1 ⟨⟨k, a, rfl⟩, hK⟩
  have kb1 : Kb w.heap.size [p] w w1 := (Kb.of_below bV [p]).trans (hK w.heap.size [p] (.inl (by simp)) (.inr (by omega)))
  have k1 : Kp [p] w w1 := kb1.kp (by simp)
  clear hK HR kb1 hV bV
  go_wp2_with fail
  go_ret2
  exact ⟨⟨k, a, rfl⟩, k1⟩
end Go.Proofs.YtakkdpbpoghfgaaGreatDoor
