/-
  cid.bufByteReader over a limited reader: the walks of ReadByte and toBufByteReader. Conditions: as each contract says.
-/
import Derived.Test.YtaionnajhgjekaaDoorLt
import Derived.Test.YtaionnajhgjekaaDoorRg
import Derived.ArgAppend
import Derived.Stop.Asserts
namespace Go.Proofs.YtaionnajhgjekaaDoor
open Go.RowKit

/-- A reader in block b over a limited reader in block t over a reader of bytes in block r: the first j of the bytes l lie in the row in block d. -/
def Lbr (b t r d g o N c M q : Nat) (L l : List UInt8) (j : Nat) (W : World) : Prop :=
  Lrq t r g o N c M q W j ∧ Blk W b 146 #[.nilIface, .iface 140 (.pointer (some ⟨t, 0, none⟩)), .slice (some ⟨d, 0, none⟩) j 64] ∧
    (∃ zs, zs.length = 64 - j ∧ Blk W d 5 (Lib.byteCells (l.take j) ++ zs).toArray) ∧ Bs W g o L
theorem Lbr.drewN {b t r d g o N c M q j : Nat} {L l : List UInt8} {W : World} (h : Lbr b t r d g o N c M q L l j W) (k : Nat) : Lbr b t r d g o N c M q L l j (W.drewN k) := h

/-- The blocks lie apart. -/
structure Ap (b t r d g : Nat) : Prop where
  rb : r ≠ b
  rd : r ≠ d
  rt : r ≠ t
  bd : b ≠ d
  bt : b ≠ t
  dt : d ≠ t
  gr : g ≠ r
  gb : g ≠ b
  gd : g ≠ d
  gt : g ≠ t

set_option maxRecDepth 100000 in
set_option maxHeartbeats 4000000 in
theorem lbReadByte_any (b t r d g o N c M q j B : Nat) (Ls : List Nat) (L l more : List UInt8) (w : World) (h : Lbr b t r d g o N c M q L l j w) (hN : N = L.length) (hNc : N ≤ c) (hNl : L.length ≤ 2147483647) (hL : L.drop q = l ++ more) (hj : j < l.length) (hj64 : j < 64) (hM : q + l.length ≤ M) (hMb : M ≤ 4611686018427387904)
    (hD : Ap b t r d g) (hr : r ∈ Ls ∨ B ≤ r) (ht : t ∈ Ls ∨ B ≤ t) (hb : b ∈ Ls ∨ B ≤ b) (hd : d ∈ Ls ∨ B ≤ d) (hB : B ≤ w.heap.size) :
    Calls Tryd.prog 111 #[.pointer (some ⟨b, 0, none⟩)] w fun e w' => e = .returned (.tuple #[.int .u8 (l[j].toNat : Nat), .nilIface]) ∧ Lbr b t r d g o N c M q L l (j + 1) w' ∧ Kb B Ls w w' := by
  obtain ⟨i0, hi0, hz0, hz1, hz2⟩ := info_parts info5
  obtain ⟨hR, hBk, ⟨zs, hzl, hDk⟩, hc⟩ := h
  have zr := hR.lt.1
  have zt := hR.lt.2
  have zb := hBk.lt
  have zd := hDk.lt
  obtain ⟨V, hV⟩ : ∃ V, w.alloc (.cells #[.int .u8 0] 151) = V := ⟨_, rfl⟩
  have PV : Blk V w.heap.size 151 #[.int .u8 0] := by rw [← hV]; exact Blk.new _ _ _
  have BV : Blk V b 146 #[.nilIface, .iface 140 (.pointer (some ⟨t, 0, none⟩)), .slice (some ⟨d, 0, none⟩) j 64] := by rw [← hV]; exact hBk.alloc _
  have DV : Blk V d 5 (Lib.byteCells (l.take j) ++ zs).toArray := by rw [← hV]; exact hDk.alloc _
  have RV : Lrq t r g o N c M q V j := by rw [← hV]; exact hR.alloc _
  have cV : Bs V g o L := by rw [← hV]; exact hc.alloc _
  have kV : Kb B Ls w V := by rw [← hV]; exact Kb.refl.alloc hB _
  have q0 : w.cell? ⟨b, 0, none⟩ = some .nilIface := hBk.cell 0
  have v1 : V.cell? ⟨b, 1, none⟩ = some (.iface 140 (.pointer (some ⟨t, 0, none⟩))) := BV.cell 1
  have hgs : g < w.heap.size := World.block_lt_of_cell? w _ (hc 0 (by
    have := congrArg List.length hL
    rw [List.length_drop, List.length_append] at this
    omega))
  have hgl' : g ≠ w.heap.size := by omega
  have hrf := readFullL_ok t r g o N c M q j w.heap.size 0 1 1 L l more [] [.int .u8 0] 151 V.drew (RV.drewN 1) (cV.drewN 1) hN hNc hNl hL (by omega) hM hMb PV.drew rfl (by simp) (by omega) (by omega) ⟨by omega, hgl', hD.gr, fun h => hD.rt h.symm, by omega⟩
  have hlt : (l.drop j).take 1 = [l[j]] := by rw [List.drop_eq_getElem_cons hj]; rfl
  obtain ⟨x, hx⟩ : ∃ x, l[j] = x := ⟨_, rfl⟩
  rw [hx] at hlt
  rw [hx]
  have htl : (Lib.byteCells (l.take j)).length = j := by rw [Lib.byteCells_length, List.length_take]; omega
  have ht1 : l.take (j + 1) = l.take j ++ [x] := by rw [List.take_add_one, List.getElem?_eq_getElem hj, hx]; rfl
  have HX := Lib.hid (And.intro hrf (And.intro hlt (And.intro htl (And.intro ht1 (And.intro hD (And.intro hzl (And.intro BV (And.intro DV (And.intro cV (And.intro kV (And.intro hr (And.intro ht (And.intro hb (And.intro hd hB))))))))))))))
  clear hrf hlt htl ht1 hD hzl hR hBk hDk hc PV BV DV RV cV kV hr ht hb hd hB hL hM hMb hNl hNc hN hx hj
  go_enter Tryd.func111, Tryd.ntmps111
  go_wp2_with fail
  go_region_with (go_at_call 39; refine HX.out.1.mono ?_; rintro _ w1 ⟨rfl, R1, P1, K1⟩)
  have hD := HX.out.2.2.2.2.1
  have KD := K1 w.heap.size [r, t, w.heap.size] (.inl (by simp)) (.inl (by simp)) (.inl (by simp))
  have k2 : Kb B Ls V w1 := (Kb.refl.drewN 1).trans (K1 B Ls HX.out.2.2.2.2.2.2.2.2.2.2.1 HX.out.2.2.2.2.2.2.2.2.2.2.2.1 (.inr HX.out.2.2.2.2.2.2.2.2.2.2.2.2.2.2))
  have B1 := (HX.out.2.2.2.2.2.2.1.drew).kb' KD zb (by simpa using ⟨fun h => hD.rb h.symm, hD.bt, by omega⟩)
  have D1 := (HX.out.2.2.2.2.2.2.2.1.drew).kb' KD zd (by simpa using ⟨fun h => hD.rd h.symm, hD.dt, by omega⟩)
  have c1 : Bs w1 g o L := (HX.out.2.2.2.2.2.2.2.2.1.drewN 1).kb KD hgs (by simpa using ⟨hD.gr, hD.gt, hgl'⟩)
  rw [HX.out.2.1] at P1
  have zw1 : w.heap.size < w1.heap.size := P1.lt
  obtain ⟨V2, hV2⟩ : ∃ V2, w1.drew.alloc (.cells #[.int .u8 (x.toNat : Nat)] 5) = V2 := ⟨_, rfl⟩
  have b12 : Below w1.heap.size w1 V2 := by rw [← hV2]; exact Old.alloc (RowKit.Below.drew (Below.refl _ _)) _
  have B2 := B1.old b12
  have D2 := D1.old b12
  have c2 := c1.old b12
  have R2 := R1.old b12
  have P2 := P1.old b12
  have N2 : Blk V2 w1.heap.size 5 #[.int .u8 (x.toNat : Nat)] := by rw [← hV2]; exact Blk.new w1.drew _ _
  have v0 : V2.cell? ⟨w1.heap.size, 0, none⟩ = some (.int .u8 (x.toNat : Nat)) := N2.cell 0
  have hdj := blk_some (i := j) D2 (by rw [List.length_append, HX.out.2.2.1]; have := HX.out.2.2.2.2.2.1; omega)
  obtain ⟨y, hy⟩ := Option.isSome_iff_exists.1 hdj.1
  have fy := hdj.2
  have DX := blk_mid D2 j HX.out.2.2.1 [.int .u8 (x.toNat : Nat)] (by have := HX.out.2.2.2.2.2.1; simp only [List.length_cons, List.length_nil]; omega)
  have hS : V2.setCells d j [.int .u8 (x.toNat : Nat)] = V2.setCell ⟨d, j, none⟩ (.int .u8 (x.toNat : Nat)) := rfl
  rw [hS] at DX
  have BX : Blk (V2.setCell ⟨d, j, none⟩ (.int .u8 (x.toNat : Nat))) b 146 #[.nilIface, .iface 140 (.pointer (some ⟨t, 0, none⟩)), .slice (some ⟨d, 0, none⟩) j 64] := B2.far hD.bd _
  have RX : Lrq t r g o N c M q (V2.setCell ⟨d, j, none⟩ (.int .u8 (x.toNat : Nat))) (j + 1) := R2.far hD.rd (fun h => hD.dt h.symm) _
  have cX : Bs (V2.setCell ⟨d, j, none⟩ (.int .u8 (x.toNat : Nat))) g o L := c2.far hD.gd _
  have PX := P2.far (p := ⟨d, j, none⟩) (by show w.heap.size ≠ d; omega) (.int .u8 (x.toNat : Nat))
  have kX : Kb B Ls w (V2.setCell ⟨d, j, none⟩ (.int .u8 (x.toNat : Nat))) := ((HX.out.2.2.2.2.2.2.2.2.2.1.trans k2).trans (Kb.of_below (b12.mono (Nat.le_trans HX.out.2.2.2.2.2.2.2.2.2.2.2.2.2.2 (Nat.le_of_lt zw1))) Ls)).setCell (p := ⟨d, j, none⟩) HX.out.2.2.2.2.2.2.2.2.2.2.2.2.2.1 _
  have q2 : w1.cell? ⟨b, 2, none⟩ = some (.slice (some ⟨d, 0, none⟩) j 64) := B1.cell 2
  have p1 : w1.cell? ⟨w.heap.size, 0, none⟩ = some (.int .u8 (x.toNat : Nat)) := P1.cell 0
  have q22 : V2.cell? ⟨b, 2, none⟩ = some (.slice (some ⟨d, 0, none⟩) j 64) := B2.cell 2
  have p12 : V2.cell? ⟨w.heap.size, 0, none⟩ = some (.int .u8 (x.toNat : Nat)) := P2.cell 0
  obtain ⟨X, hX⟩ : ∃ X, V2.setCell ⟨d, j, none⟩ (.int .u8 (x.toNat : Nat)) = X := ⟨_, rfl⟩
  rw [hX] at DX BX RX cX kX PX
  have x2 : X.cell? ⟨b, 2, none⟩ = some (.slice (some ⟨d, 0, none⟩) j 64) := BX.cell 2
  have px2 : X.cell? ⟨w.heap.size, 0, none⟩ = some (.int .u8 (x.toNat : Nat)) := PX.cell 0
  have fx := BX.frozen 2
  have PZ := PX.far (p := ⟨b, 2, none⟩) (by show w.heap.size ≠ b; omega) (.slice (some ⟨d, 0, none⟩) (j + 1) 64)
  have hne : ¬ b = w.heap.size := by omega
  have pz : (X.setCell ⟨b, 2, none⟩ (.slice (some ⟨d, 0, none⟩) (j + 1) 64)).cell? ⟨w.heap.size, 0, none⟩ = some (.int .u8 (x.toNat : Nat)) := PZ.cell 0
  have HE := Lib.hid (And.intro DX (And.intro BX (And.intro RX (And.intro cX kX))))
  have HD := Lib.hid hD
  clear DX BX RX cX kX PX PZ hS hdj N2 P2 R2 c2 D2 B2 b12 zw1 k2 KD c1 D1 B1 hD R1 P1 K1 hV v1 q0
  go_wp2_with fail
  go_region_with (fail)
  all_goals go_wp2_with fail
  all_goals go_ret2
  all_goals
    have hbt : Lib.byteCells (l.take (j + 1)) = Lib.byteCells (l.take j) ++ [.int .u8 (x.toNat : Nat)] := by rw [HX.out.2.2.2.1, Lib.byteCells_append]; rfl
    refine ⟨rfl, ⟨HE.out.2.2.1.far HD.out.rb (fun h => HD.out.bt h.symm) _, HE.out.2.1.set_ 2 _, ⟨zs.drop 1, by rw [List.length_drop]; have := HX.out.2.2.2.2.2.1; omega, ?_⟩, HE.out.2.2.2.1.far HD.out.gb _⟩, HE.out.2.2.2.2.setCell (p := ⟨b, 2, none⟩) HX.out.2.2.2.2.2.2.2.2.2.2.2.2.1 _⟩
    rw [hbt]
    exact HE.out.1.far (fun h => HD.out.bd h.symm) _

set_option maxRecDepth 100000 in
set_option maxHeartbeats 2000000 in
theorem toBufL_any (t d c : Nat) (w : World) :
    Calls Tryd.prog 71 #[.iface 140 (.pointer (some ⟨t, 0, none⟩)), .slice (some ⟨d, 0, none⟩) 0 c] w fun e w' => ∃ b, e = .returned (.pointer (some ⟨b, 0, none⟩)) ∧ w.heap.size ≤ b ∧ Blk w' b 146 #[.nilIface, .iface 140 (.pointer (some ⟨t, 0, none⟩)), .slice (some ⟨d, 0, none⟩) 0 c] ∧ Below w.heap.size w w' := by
  have hta := fun W u => run_typeAssert_lacksB (P := Tryd.prog) (asserted := 115) (t := 140) Tryd.underlying115 (z := .nilIface) (by kernel_rfl) (by kernel_rfl) (.pointer (some ⟨t, 0, none⟩)) u W
  go_enter Tryd.func71, Tryd.ntmps71
  go_wp2_with fail
  go_ret
  exact ⟨_, rfl, Nat.le_refl _, Blk.new _ _ _, Old.alloc (Below.refl _ _) _⟩
end Go.Proofs.YtaionnajhgjekaaDoor
