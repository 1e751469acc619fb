/-
  cid.bufByteReader over a bytes.Reader: the walks of ReadByte and toBufByteReader. Conditions: as each contract says.
-/
import Derived.Test.YtgkhofnedhlgdaaDoorRg
import Derived.ArgAppend
import Derived.Stop.Asserts
namespace Go.Proofs.YtgkhofnedhlgdaaDoor
open Go.RowKit

theorem Kb.mono {B B' : Nat} {L : List Nat} {x y : World} (h : Kb B L x y) (hB : B' ≤ B) : Kb B' L x y := ⟨h.os, h.tape, h.output, h.size, fun k hk hn => h.block k (Nat.lt_of_lt_of_le hk hB) hn⟩
theorem Blk.kb {B : Nat} {L : List Nat} {x y : World} {g : Nat} {t : TypeId} {cs : Array Value} (h : Blk x g t cs) (k : Kb B L x y) (hB : g < B) (hg : g ∉ L) : Blk y g t cs := (k.block g hB hg).trans h
theorem Er.kb {B : Nat} {L : List Nat} {x y : World} {g : Nat} (h : Er x g) (k : Kb B L x y) (hB : g < B) (hg : g ∉ L) : Er y g := by
  obtain ⟨t, p, h⟩ := h
  exact ⟨t, p, (k.cell (p := ⟨g, 0, none⟩) hB hg).trans h⟩

theorem bs_pre {w : World} {g : Nat} {t : TypeId} {l : List UInt8} {zs : List Value} (h : Blk w g t (Lib.byteCells l ++ zs).toArray) : Bs w g 0 l := by
  intro j hj
  rw [Nat.zero_add, h.cell]
  simp only [List.getElem?_toArray]
  rw [List.getElem?_append_left (by rw [Lib.byteCells_length]; exact hj)]
  simp [Lib.byteCells, hj]

/-- A reader in block b over a reader of bytes in block r: the first j of the bytes l lie in the row in block d. -/
def Bbr (b r d g o n c : Nat) (l : List UInt8) (j : Nat) (W : World) : Prop :=
  Rdr W r g o n c j ∧ Blk W b 103 #[.iface 49 (.pointer (some ⟨r, 0, none⟩)), .nilIface, .slice (some ⟨d, 0, none⟩) j 64] ∧
    (∃ zs, zs.length = 64 - j ∧ Blk W d 5 (Lib.byteCells (l.take j) ++ zs).toArray) ∧ Bs W g o l
theorem Bbr.drewN {b r d g o n c j : Nat} {l : List UInt8} {W : World} (h : Bbr b r d g o n c l j W) (k : Nat) : Bbr b r d g o n c l j (W.drewN k) := h

set_option maxRecDepth 100000 in
set_option maxHeartbeats 2000000 in
theorem bbReadByte_any (b r d g o n c j B : Nat) (L : List Nat) (l : List UInt8) (w : World) (h : Bbr b r d g o n c l j w) (hn : n = l.length) (hl : l.length ≤ 2147483647) (hj : j < l.length) (hj64 : j < 64)
    (hD : r ≠ b ∧ r ≠ d ∧ b ≠ d ∧ g ≠ r ∧ g ≠ b ∧ g ≠ d) (hr : r ∈ L ∨ B ≤ r) (hb : b ∈ L ∨ B ≤ b) (hd : d ∈ L ∨ B ≤ d) (hB : B ≤ w.heap.size) :
    Calls Tryd.prog 95 #[.pointer (some ⟨b, 0, none⟩)] w fun e w' => e = .returned (.tuple #[.int .u8 (l[j].toNat : Nat), .nilIface]) ∧ Bbr b r d g o n c l (j + 1) w' ∧ Kb B L w w' := by
  obtain ⟨i0, hi0, hz0, hz1, hz2⟩ := info_parts info5
  have hmr : ∀ W, (method 257 49 (.pointer (some ⟨r, 0, none⟩)) "ReadByte").run Tryd.prog W = .ok (92, .pointer (some ⟨r, 0, none⟩)) W := fun _ => by kernel_rfl
  obtain ⟨hR, hBk, ⟨zs, hzl, hDk⟩, hc⟩ := h
  have q0 : w.cell? ⟨b, 0, none⟩ = some (.iface 49 (.pointer (some ⟨r, 0, none⟩))) := hBk.cell 0
  have HD := Lib.hid hD
  have HZ := Lib.hid hzl
  clear hD hzl
  go_enter Tryd.func95, Tryd.ntmps95
  go_wp2_with fail
  refine (readByte_any r g o n c j l w hR hc hn hj (by omega) HD.out.2.2.2.1).mono ?_
  rintro e w1 ⟨rfl, R1, k1⟩
  have B1 := hBk.kp k1 (by simpa using fun h => HD.out.1 h.symm)
  have D1 := hDk.kp k1 (by simpa using fun h => HD.out.2.1 h.symm)
  have c1 := hc.kp k1 (by simpa using HD.out.2.2.2.1)
  obtain ⟨x, hx⟩ : ∃ x, l[j] = x := ⟨_, rfl⟩
  rw [hx]
  have HX := Lib.hid hx
  have q2 : w1.cell? ⟨b, 2, none⟩ = some (.slice (some ⟨d, 0, none⟩) j 64) := B1.cell 2
  obtain ⟨V, hV⟩ : ∃ V, w1.alloc (.cells #[.int .u8 (x.toNat : Nat)] 5) = V := ⟨_, rfl⟩
  have DV : Blk V d 5 (Lib.byteCells (l.take j) ++ zs).toArray := by rw [← hV]; exact D1.alloc _
  have BV : Blk V b 103 #[.iface 49 (.pointer (some ⟨r, 0, none⟩)), .nilIface, .slice (some ⟨d, 0, none⟩) j 64] := by rw [← hV]; exact B1.alloc _
  have RV : Rdr V r g o n c (j + 1) := by obtain ⟨p, R1⟩ := R1; exact ⟨p, by rw [← hV]; exact R1.alloc _⟩
  have cV : Bs V g o l := by rw [← hV]; exact c1.alloc _
  have xV : Blk V w1.heap.size 5 #[.int .u8 (x.toNat : Nat)] := by rw [← hV]; exact Blk.new _ _ _
  have kV : Kb B L w V := by
    rw [← hV]
    have k1b : Kb B L w w1 := ⟨k1.os, k1.tape, k1.output, k1.size, fun i hi hn => by
      by_cases hir : i = r
      · subst hir; rcases hr with h | h
        · exact absurd h hn
        · omega
      · exact k1.block i (by omega) (by simpa using hir)⟩
    exact k1b.alloc (by have := k1.size; omega) _
  have htl : (Lib.byteCells (l.take j)).length = j := by rw [Lib.byteCells_length, List.length_take]; omega
  have v0 : V.cell? ⟨w1.heap.size, 0, none⟩ = some (.int .u8 (x.toNat : Nat)) := xV.cell 0
  have hdj := blk_some (i := j) DV (by rw [List.length_append, htl]; have := HZ.out; omega)
  obtain ⟨y, hy⟩ := Option.isSome_iff_exists.1 hdj.1
  have fy := hdj.2
  have DX := blk_mid DV j htl [.int .u8 (x.toNat : Nat)] (by have := HZ.out; simp only [List.length_cons, List.length_nil]; omega)
  have hS : V.setCells d j [.int .u8 (x.toNat : Nat)] = V.setCell ⟨d, j, none⟩ (.int .u8 (x.toNat : Nat)) := rfl
  rw [hS] at DX
  have BX : Blk (V.setCell ⟨d, j, none⟩ (.int .u8 (x.toNat : Nat))) b 103 #[.iface 49 (.pointer (some ⟨r, 0, none⟩)), .nilIface, .slice (some ⟨d, 0, none⟩) j 64] := BV.far HD.out.2.2.1 _
  have RX : Rdr (V.setCell ⟨d, j, none⟩ (.int .u8 (x.toNat : Nat))) r g o n c (j + 1) := by obtain ⟨p, RV⟩ := RV; exact ⟨p, RV.far HD.out.2.1 _⟩
  have cX : Bs (V.setCell ⟨d, j, none⟩ (.int .u8 (x.toNat : Nat))) g o l := cV.far HD.out.2.2.2.2.2 _
  have kX : Kb B L w (V.setCell ⟨d, j, none⟩ (.int .u8 (x.toNat : Nat))) := kV.setCell (p := ⟨d, j, none⟩) hd _
  obtain ⟨X, hX⟩ : ∃ X, V.setCell ⟨d, j, none⟩ (.int .u8 (x.toNat : Nat)) = X := ⟨_, rfl⟩
  rw [hX] at DX BX RX cX kX
  have x2 : X.cell? ⟨b, 2, none⟩ = some (.slice (some ⟨d, 0, none⟩) j 64) := BX.cell 2
  have fx := BX.frozen 2
  clear hS hdj kV xV cV RV BV DV R1 B1 D1 c1 k1 hR hBk hDk hc q0 hmr hx htl
  go_wp2_with fail
  go_ret2
  have ht : l.take (j + 1) = l.take j ++ [x] := by rw [List.take_add_one, List.getElem?_eq_getElem hj, HX.out]; rfl
  have hbt : Lib.byteCells (l.take (j + 1)) = Lib.byteCells (l.take j) ++ [.int .u8 (x.toNat : Nat)] := by rw [ht, Lib.byteCells_append]; rfl
  refine ⟨by rw [HX.out]; rfl, ⟨?_, BX.set_ 2 _, ⟨zs.drop 1, by rw [List.length_drop]; have := HZ.out; omega, ?_⟩, cX.far HD.out.2.2.2.2.1 _⟩, kX.setCell (p := ⟨b, 2, none⟩) hb _⟩
  · obtain ⟨p, RX⟩ := RX
    exact ⟨p, RX.far HD.out.1 _⟩
  · rw [hbt]
    exact DX.far (fun h => HD.out.2.2.1 h.symm) _

set_option maxRecDepth 100000 in
set_option maxHeartbeats 2000000 in
theorem bbReadByte_end (b r d g o n c B : Nat) (L : List Nat) (l : List UInt8) (aE : Addr) (w : World) (h : Bbr b r d g o n c l n w) (hn : n ≤ 2147483647) (hE : Ee w 0 aE)
    (hD : r ≠ b ∧ r ≠ d ∧ b ≠ d ∧ g ≠ r ∧ g ≠ b ∧ g ≠ d) (hr : r ∈ L ∨ B ≤ r) (hB : B ≤ w.heap.size) (hrE : r ≠ 0) :
    Calls Tryd.prog 95 #[.pointer (some ⟨b, 0, none⟩)] w fun e w' => e = .returned (.tuple #[.int .u8 0, .iface 128 (.pointer (some aE))]) ∧ Bbr b r d g o n c l n w' ∧ Kb B L w w' := by
  have hmr : ∀ W, (method 257 49 (.pointer (some ⟨r, 0, none⟩)) "ReadByte").run Tryd.prog W = .ok (92, .pointer (some ⟨r, 0, none⟩)) W := fun _ => by kernel_rfl
  obtain ⟨hR, hBk, ⟨zs, hzl, hDk⟩, hc⟩ := h
  have q0 : w.cell? ⟨b, 0, none⟩ = some (.iface 49 (.pointer (some ⟨r, 0, none⟩))) := hBk.cell 0
  have HD := Lib.hid hD
  have HZ := Lib.hid hzl
  clear hD hzl
  go_enter Tryd.func95, Tryd.ntmps95
  go_wp2_with fail
  refine (readByte_end r g o n c _ w hR (by omega) hE hrE).mono ?_
  rintro e w1 ⟨rfl, R1, k1⟩
  have B1 := hBk.kp k1 (by simpa using fun h => HD.out.1 h.symm)
  have D1 := hDk.kp k1 (by simpa using fun h => HD.out.2.1 h.symm)
  have c1 := hc.kp k1 (by simpa using HD.out.2.2.2.1)
  have k1b : Kb B L w w1 := ⟨k1.os, k1.tape, k1.output, k1.size, fun i hi hn => by
    by_cases hir : i = r
    · subst hir; rcases hr with h | h
      · exact absurd h hn
      · omega
    · exact k1.block i (by omega) (by simpa using hir)⟩
  clear hR hBk hDk hc q0 hmr k1
  go_wp2_with fail
  go_ret2
  exact ⟨rfl, ⟨R1, B1, ⟨zs, HZ.out, D1⟩, c1⟩, k1b⟩

set_option maxRecDepth 100000 in
set_option maxHeartbeats 2000000 in
theorem toBuf_any (r d c : Nat) (w : World) :
    Calls Tryd.prog 53 #[.iface 49 (.pointer (some ⟨r, 0, none⟩)), .slice (some ⟨d, 0, none⟩) 0 c] w fun e w' => ∃ b, e = .returned (.pointer (some ⟨b, 0, none⟩)) ∧ w.heap.size ≤ b ∧ Blk w' b 103 #[.iface 49 (.pointer (some ⟨r, 0, none⟩)), .nilIface, .slice (some ⟨d, 0, none⟩) 0 c] ∧ Below w.heap.size w w' := by
  have hta := fun W t => run_typeAssert_hasB (P := Tryd.prog) (asserted := 83) (t := 49) Tryd.underlying83 (by kernel_rfl) (.pointer (some ⟨r, 0, none⟩)) t W
  go_enter Tryd.func53, Tryd.ntmps53
  go_wp2_with fail
  go_ret
  exact ⟨_, rfl, Nat.le_refl _, Blk.new _ _ _, Old.alloc (Below.refl _ _) _⟩
end Go.Proofs.YtgkhofnedhlgdaaDoor
