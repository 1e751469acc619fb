/-
  carv1.ReadHeader and car.ReadVersion over an offsetReadSeeker of a file that begins with the pragma of version 2; car.Reader.readV2Header. Conditions: as each contract says.
-/
import Derived.Test.YtakkdpbpoghfgaaGreatDoorCg
import Derived.Test.YtakkdpbpoghfgaaGreatDoorHt
namespace Go.Proofs.YtakkdpbpoghfgaaGreatDoor
open Go.RowKit

set_option maxRecDepth 100000 in
set_option maxHeartbeats 4000000 in
theorem readHeadO (o r g on n c i : Nat) (b : Int) (rest l : List UInt8) (aE : Addr) (w : World) (hpl : l = 10 :: (pt ++ rest)) (h : Blk w o 84 (orsC r 0 (.int .u8 b))) (hr : Rdr w r g on n c i) (hc : Bs w g on l) (hn : n = l.length) (hnc : n ≤ c) (hl : l.length ≤ 2147483647)
    (hgo : g ≠ o) (hro : r ≠ o) (hE : Ee w 4 aE) (gE : 4 ≠ o) (hgl : g < w.heap.size) :
    Calls Tryz.prog 31 #[.iface 80 (.pointer (some ⟨o, 0, none⟩)), .int .u64 33554432] w fun e w' => ∃ ch, e = .returned (.tuple #[.pointer (some ⟨ch, 0, none⟩), .nilIface]) ∧
      Blk w' ch 91 (chC 2) ∧ w.heap.size ≤ ch ∧ Kp [o] w w' := by
  have hEl := hE.lt
  have HR := Lib.hid (ldReadO o r g on n c i b rest l _ w hpl h hr hc hn hnc hl hgo hro hE gE hEl hgl)
  have HE := Lib.hid (And.intro hE gE)
  have hol := h.lt
  clear hpl h hr hc hn hnc hl hgo hro hE gE hgl
  go_enter Tryz.func31, Tryz.ntmps31
  go_wp2_with fail
  refine HR.out.mono ?_
  rintro e w1 ⟨G, rfl, hB, hGl, k1⟩
  have hG1 : G < w1.heap.size := hB.lt (by simp [pt])
  have s1 := k1.size
  obtain ⟨ch, hch⟩ : ∃ ch, w1.heap.size = ch := ⟨_, rfl⟩
  have b2 := Old.alloc (Below.refl w1.heap.size w1) (.cells #[.slice none 0 0, .int .u64 0] 91)
  have C2 : Blk (w1.alloc (.cells #[.slice none 0 0, .int .u64 0] 91)) ch 91 (chC 0) := by rw [← hch]; exact Blk.new _ _ _
  have B2 := hB.old b2
  have E1 := HE.out.1.kp k1 (by simpa using HE.out.2)
  have E2 := E1.old b2
  have hE1l := E1.lt
  have HK := Lib.hid (k1.alloc (.cells #[.slice none 0 0, .int .u64 0] 91))
  clear k1 hB E1
  go_wp2_with fail
  have s2 := b2.size
  generalize w1.alloc (.cells #[.slice none 0 0, .int .u64 0] 91) = w2 at *
  refine (decHead G ch aE w2 B2 C2 E2 (by omega) (by omega) (by omega)).mono ?_
  rintro e w3 ⟨rfl, C3, k3⟩
  have HC := Lib.hid (And.intro C3 k3)
  have hcw : w.heap.size ≤ ch := by omega
  clear C3 k3 C2 B2 E2 hch
  go_wp2_with fail
  go_ret2
  exact ⟨ch, rfl, HC.out.1, hcw, HK.out.step HC.out.2 (by simp; omega)⟩

set_option maxRecDepth 100000 in
set_option maxHeartbeats 4000000 in
theorem readVer (o r g on n c i g8 b0 b1 b2 b3 b4 b5 b6 b7 : Nat) (b : Int) (rest l : List UInt8) (aE : Addr) (w : World) (hO : Opts w g8 b0 b1 b2 b3 b4 b5 b6 b7) (hpl : l = 10 :: (pt ++ rest)) (h : Blk w o 84 (orsC r 0 (.int .u8 b))) (hr : Rdr w r g on n c i) (hc : Bs w g on l) (hn : n = l.length) (hnc : n ≤ c) (hl : l.length ≤ 2147483647)
    (hgo : g ≠ o) (hro : r ≠ o) (hE : Ee w 4 aE) (gE : 4 ≠ o) (hgl : g < w.heap.size) :
    Calls Tryz.prog 16 #[.iface 80 (.pointer (some ⟨o, 0, none⟩)), .slice (some ⟨g8, 0, none⟩) 8 8] w fun e w' => e = .returned (.tuple #[.int .u64 2, .nilIface]) ∧ Kp [o] w w' := by
  have HF := Lib.hid (And.intro h (And.intro hr (And.intro hc (And.intro hE hO))))
  have HP := Lib.hid (And.intro hpl (And.intro hn (And.intro hnc (And.intro hl (And.intro hgo (And.intro hro (And.intro gE hgl)))))))
  clear hpl h hr hc hn hnc hl hgo hro hE gE hgl hO
  go_enter Tryz.func16, Tryz.ntmps16
  go_wp2_with fail
  refine (applyOptions_any g8 b0 b1 b2 b3 b4 b5 b6 b7 w HF.out.2.2.2.2).mono ?_
  rintro e w1 ⟨rfl, k1⟩
  unfold optR
  have k2 := Old.alloc k1 (.cells optR.toArray 46)
  have hs1 := k1.size
  unfold optR at k2
  go_wp2_with fail
  generalize w1.alloc _ = w2 at *
  refine (readHeadO o r g on n c i b rest l aE w2 HP.out.1 (HF.out.1.old k2) (HF.out.2.1.old k2) (HF.out.2.2.1.old k2) HP.out.2.1 HP.out.2.2.1 HP.out.2.2.2.1 HP.out.2.2.2.2.1 HP.out.2.2.2.2.2.1 (HF.out.2.2.2.1.old k2) HP.out.2.2.2.2.2.2.1 (by have := HP.out.2.2.2.2.2.2.2; have := k2.size; omega)).mono ?_
  rintro e w3 ⟨ch, rfl, C3, hcl, k3⟩
  have c1 : w3.cell? ⟨ch, 1, none⟩ = some (.int .u64 2) := C3.cell 1
  have HK := Lib.hid (And.intro k2 k3)
  clear C3 k3 k2
  go_wp2_with fail
  go_ret2
  exact ⟨rfl, (Kp.of_below HK.out.1 [o]).trans HK.out.2⟩

/-- The file l: it has a whole header of these numbers behind the pragma, or not. -/
def Fil (x y u v z : Int) (l : List UInt8) : Prop :=
  (51 ≤ l.length ∧ (l.drop 11).take 40 = hdBytes x y u v z ∧ (0 ≤ x ∧ x < 18446744073709551616) ∧ (0 ≤ y ∧ y < 18446744073709551616) ∧ (0 ≤ u ∧ u < 18446744073709551616) ∧ (0 ≤ v ∧ v < 18446744073709551616) ∧ (0 ≤ z ∧ z < 18446744073709551616)) ∨ l.length < 51

set_option maxRecDepth 100000 in
set_option maxHeartbeats 4000000 in
theorem readV2 (cr r g on n c i : Nat) (x y u v z : Int) (rest l : List UInt8) (a0 a1 a2 a3 a4 ver : Value) (aE aU : Addr) (w : World) (hfil : Fil x y u v z l) (hpl : l = 10 :: (pt ++ rest))
    (hH : Blk w cr 50 (rdC a0 a1 a2 a3 a4 ver r)) (hr : Rdr w r g on n c i) (hc : Bs w g on l) (hn : n = l.length) (hnc : n ≤ c) (hl : l.length ≤ 2147483647)
    (hrc : r ≠ cr) (hgc : g ≠ cr) (hgl : g < w.heap.size) (hE : Ee w 4 aE) (hU : Ee w 5 aU) (gE : 4 ≠ cr) (gU : 5 ≠ cr) :
    Calls Tryz.prog 18 #[.pointer (some ⟨cr, 0, none⟩)] w fun e w' => Kp [cr] w w' ∧
      ((51 ≤ l.length ∧ SoundH u v z ∧ e = .returned .nilIface ∧ Blk w' cr 50 (rdC (.int .u64 x) (.int .u64 y) (.int .u64 u) (.int .u64 v) (.int .u64 z) ver r)) ∨
       (¬ (51 ≤ l.length ∧ SoundH u v z) ∧ ∃ (t : TypeId) (a : Value), e = .returned (.iface t a))) := by
  have q6 : w.cell? ⟨cr, 6, none⟩ = some (.iface 59 (.pointer (some ⟨r, 0, none⟩))) := hH.cell 6
  have hcl := hH.lt
  have hrl := hr.lt
  have hEl := hE.lt
  have hUl := hU.lt
  have l11 : 11 ≤ l.length := by rw [hpl]; simp [pt]
  have HF := Lib.hid (And.intro hH (And.intro hr (And.intro hc (And.intro hE hU))))
  have HP := Lib.hid (And.intro hfil (And.intro hn (And.intro hnc (And.intro hl (And.intro hrc (And.intro hgc (And.intro gE (And.intro gU l11))))))))
  clear hH hr hc hE hU hfil hpl hn hnc hl hrc hgc gE gU l11
  go_enter Tryz.func18, Tryz.ntmps18
  go_wp2_with fail
  refine (newSec_any r w).mono ?_
  rintro e w1 ⟨rfl, S1, k1⟩
  obtain ⟨p, hp⟩ : ∃ p, w.heap.size = p := ⟨_, rfl⟩
  rw [hp] at S1
  have hh : Calls Tryz.prog 33 #[.pointer (some ⟨cr, 0, none⟩), .iface 95 (.pointer (some ⟨p, 0, none⟩))] w1 (HPost cr p r x y u v z ver l w1) := by
    have s1 := k1.size
    obtain ⟨h1, h2, h3, h4, h5, h6, h7, h8, h9⟩ := HP.out
    rcases h1 with h1 | h1
    · exact headS_full cr p r g on n c i x y u v z l a0 a1 a2 a3 a4 ver _ w1 h1.2.2.1 h1.2.2.2.1 h1.2.2.2.2.1 h1.2.2.2.2.2.1 h1.2.2.2.2.2.2 (HF.out.1.old k1) S1 (HF.out.2.1.old k1) (HF.out.2.2.1.old k1) h2 (by omega) h1.2.1 h3 h4 (by omega) ⟨by omega, h5⟩ ⟨by omega, h6⟩ (by omega) (HF.out.2.2.2.1.old k1) ⟨by omega, h7⟩
    · exact headS_short cr p r g on n c i x y u v z l a0 a1 a2 a3 a4 ver aE aU w1 (HF.out.1.old k1) S1 (HF.out.2.1.old k1) (HF.out.2.2.1.old k1) h2 (by omega) (by omega) h3 h4 (by omega) ⟨by omega, h5⟩ ⟨by omega, h6⟩ (by omega) (HF.out.2.2.2.1.old k1) (HF.out.2.2.2.2.old k1) ⟨by omega, h7⟩ ⟨by omega, h8⟩
  have HH := Lib.hid (And.intro hh k1)
  have hple : w.heap.size ≤ p := by omega
  clear hh k1 S1 q6
  go_wp2_with fail
  refine HH.out.1.mono ?_
  rintro e w2 ⟨k2, hx⟩
  have k12 : Kp [cr] w w2 := (Kp.of_below HH.out.2 [cr]).step k2 (by simp; omega)
  have HK := Lib.hid k12
  clear hp
  rcases hx with ⟨h51, hs, rfl, B2⟩ | ⟨hno, k, t, a, rfl⟩
  · have HB := Lib.hid (And.intro h51 (And.intro hs B2))
    clear h51 hs B2 k2 k12
    go_wp2_with fail
    go_ret
    exact ⟨HK.out, .inl ⟨HB.out.1, HB.out.2.1, rfl, HB.out.2.2⟩⟩
  · have HB := Lib.hid hno
    clear hno k2 k12
    go_wp2_with fail
    go_ret
    exact ⟨HK.out, .inr ⟨HB.out, t, a, rfl⟩⟩
end Go.Proofs.YtakkdpbpoghfgaaGreatDoor
