/-
  append(b, s...) of a string onto a row of bytes; spec.NewHead, spec.Padded, spec.FileBytes. Conditions: as each contract says.
  The walk of spec.FileBytes. Conditions: as the contract says.
  A file of version 2: where its parts lie. Conditions: as each law says.
-/
import Derived.Test.YtlafdmmjbkdkaaaGreatDoorJMa
import Derived.Test.YtlafdmmjbkdkaaaGreatDoorJC2Small
import Derived.Test.YtlafdmmjbkdkaaaGreatDoorJSp
import Derived.Test.YtlafdmmjbkdkaaaGreatDoorJCf0
import Derived.Deep.AppendSrc
namespace Go.Proofs.YtlafdmmjbkdkaaaGreatDoor
open Go.RowKit

theorem rowB_appendS (w : World) (i0 : TypeInfo) (hi : Tryz.prog.info? 5 = some i0) (hz : i0.zero = some (.int .u8 0)) (hsize : i0.size = 1) (hby : i0.bytes = 1) (g cap : Nat) (l P : List UInt8) (h : RowB w g cap l) (hl : l.length + P.length ≤ 1000000000) :
    ∃ g' cap' w', (Builtin.append_ #[45, 9] 45 #[.slice (some ⟨g, 0, none⟩) l.length cap, .string ⟨P.toArray⟩]).run Tryz.prog w = .ok (.slice (some ⟨g', 0, none⟩) (l.length + P.length) cap') w' ∧
      RowB w' g' cap' (l ++ P) ∧ Kp [g] w w' ∧ (g' = g ∨ w.heap.size ≤ g') := by
  have hsz : (⟨P.toArray⟩ : ByteArray).size = P.length := by simp [ByteArray.size]
  have hbc : Go.byteCells ⟨P.toArray⟩ = Lib.byteCells P := by simp [Go.byteCells, Lib.byteCells]
  have hsrc := Src.ofString (P := Tryz.prog) w (tx := 9) Tryz.underlying9 ⟨P.toArray⟩
  rw [hsz, hbc] at hsrc
  have hle := h.le
  by_cases hr : l.length + P.length ≤ cap
  · have hrun := run_append_room_src (P := Tryz.prog) w 45 9 45 5 i0 Tryz.underlying45 hi g 0 l.length cap (.string ⟨P.toArray⟩) P.length (Lib.byteCells P) (by rw [hsize]; exact hsrc) hr
      (fun j hj => by
        rw [Lib.byteCells_length] at hj
        rw [hsize]
        exact (h.ok _ (by omega)).1) (fun j hj => by
        rw [Lib.byteCells_length] at hj
        rw [hsize]
        exact (h.ok _ (by omega)).2)
    rw [hsize, show 0 + l.length * 1 = l.length by omega] at hrun
    have hkp : Kp [g] w (w.setCells g l.length (Lib.byteCells P)) := Kp.of_setCells (.inl (by simp)) _ _ _ (Kp.refl _ _)
    refine ⟨g, cap, _, hrun, ⟨Nat.lt_of_lt_of_le h.lt hkp.size, by simpa using hr, h.mx, ?_, fun i hi => ⟨World.isSome_setCells g _ _ _ _ (h.ok i hi).1, (World.frozen?_setCells g _ _ _ _).trans (h.ok i hi).2⟩⟩, hkp, .inl rfl⟩
    intro j hj
    rw [Nat.zero_add]
    by_cases hjl : j < l.length
    · rw [World.cell?_setCells_out g _ _ _ _ (fun _ _ => Or.inl hjl), List.getElem_append_left hjl]
      have := h.bs j hjl
      rwa [Nat.zero_add] at this
    · have hjP : j - l.length < (Lib.byteCells P).length := by rw [Lib.byteCells_length]; simp at hj; omega
      have := World.cell?_setCells_in g (Lib.byteCells P) l.length w (fun i hi => by rw [Lib.byteCells_length] at hi; exact (h.ok _ (by omega)).1) (j - l.length) hjP
      rw [show l.length + (j - l.length) = j by omega] at this
      rw [this, List.getElem_append_right (by omega)]
      simp [Lib.byteCells]
  · have hrun := run_append_grow_src (P := Tryz.prog) w 45 9 45 5 i0 (.int .u8 0) Tryz.underlying45 hi hz (some ⟨g, 0, none⟩) l.length cap (Lib.byteCells l)
      (run_firstCells_some (P := Tryz.prog) w.drew i0.size l.length ⟨g, 0, none⟩ l.length cap (Lib.byteCells l) (by rw [Lib.byteCells_length, hsize]; omega) (by simpa using bs_src h.bs)) (.string ⟨P.toArray⟩) P.length (Lib.byteCells P) (by rw [hsize]; exact hsrc) (by omega) (by omega) (growslice_fits (by omega) (by rw [hby]; omega))
    obtain ⟨G, hG⟩ : ∃ G, grownCap w (l.length + P.length) cap 5 = G := ⟨_, rfl⟩
    have hge := grownCap_ge w (l.length + P.length) cap 5
    have hmx := grownCap_le_maxLen w (l.length + P.length) cap 5 (by unfold maxLen; omega)
    rw [hG] at hrun hge hmx
    have hbl : Lib.byteCells l ++ Lib.byteCells P = Lib.byteCells (l ++ P) := by simp [Lib.byteCells]
    rw [hbl] at hrun
    have hN := Blk.new w.drew 5 ((Lib.byteCells (l ++ P)).toArray ++ Builtin.zeroCells (Value.int .u8 0).cells (G - (l.length + P.length)))
    have hbs := bs_new_more w.drew 5 (l ++ P) (Builtin.zeroCells (Value.int .u8 0).cells (G - (l.length + P.length)))
    have hbw := Old.alloc ((Below.refl w.heap.size w).drew) (.cells ((Lib.byteCells (l ++ P)).toArray ++ Builtin.zeroCells (Value.int .u8 0).cells (G - (l.length + P.length))) 5)
    refine ⟨w.heap.size, G, _, hrun, ⟨hN.lt, by simpa using hge, hmx, hbs, fun i hi => ⟨?_, hN.frozen i⟩⟩, Kp.of_below hbw _, .inr (Nat.le_refl _)⟩
    have := hN.cell i
    rw [show w.drew.heap.size = w.heap.size from rfl] at this
    rw [this]
    have hsz : ((Lib.byteCells (l ++ P)).toArray ++ Builtin.zeroCells (Value.int .u8 0).cells (G - (l.length + P.length))).size = G := by
      rw [Array.size_append, size_zeroCells, List.size_toArray, Lib.byteCells_length, List.length_append, show ((Value.int .u8 0).cells).size = 1 from rfl]
      omega
    simp [hsz, hi]

set_option maxRecDepth 100000 in
theorem newHeadR (v : Nat) (hv : v ≤ 100000000) (w : World) : Calls Tryz.prog 18 #[.int .u64 v] w fun e w' => e = .returned (.agg #[.int .u64 0, .int .u64 0, .int .u64 51, .int .u64 v, .int .u64 ((51 + v : Nat) : Int)]) ∧ Below w.heap.size w w' := by
  have hw : IntKind.u64.wrap (51 + (v : Int)) = ((51 + v : Nat) : Int) := by rw [IntKind.wrap_u64]; omega
  obtain ⟨X, hX⟩ : ∃ X : Int, ((51 + v : Nat) : Int) = X := ⟨_, rfl⟩
  rw [hX] at hw ⊢
  clear hX hv
  go_enter Tryz.func18, Tryz.ntmps18
  go_wp2_with fail
  refine bodyPost_ret (v := .agg #[.int .u64 0, .int .u64 0, .int .u64 51, .int .u64 v, .int .u64 X]) (by simp [results, Tryz.results18, go_sem]) rfl ⟨rfl, ?_⟩
  exact (Below.refl _ _).alloc (by simp) _

set_option maxRecDepth 100000 in
set_option maxHeartbeats 2000000 in
theorem paddedR (u v z dd xx : Nat) (hz : z ≤ 100000100) (hd : dd < 256) (hx : xx < 256) (w : World) : Calls Tryz.prog 17 #[.agg #[.int .u64 0, .int .u64 0, .int .u64 u, .int .u64 v, .int .u64 z], .int .u64 dd, .int .u64 xx] w fun e w' => e = .returned (.agg #[.int .u64 0, .int .u64 0, .int .u64 ((51 + dd : Nat) : Int), .int .u64 v, .int .u64 ((z + (dd + xx) : Nat) : Int)]) ∧ Below w.heap.size w w' := by
  have hw1 : IntKind.u64.wrap (51 + (dd : Int)) = ((51 + dd : Nat) : Int) := by rw [IntKind.wrap_u64]; omega
  have hw2 : IntKind.u64.wrap ((dd : Int) + (xx : Int)) = ((dd + xx : Nat) : Int) := by rw [IntKind.wrap_u64]; omega
  have hw3 : IntKind.u64.wrap ((z : Int) + ((dd + xx : Nat) : Int)) = ((z + (dd + xx) : Nat) : Int) := by rw [IntKind.wrap_u64]; omega
  obtain ⟨X, hX⟩ : ∃ X : Int, ((51 + dd : Nat) : Int) = X := ⟨_, rfl⟩
  obtain ⟨Y, hY⟩ : ∃ Y : Int, ((dd + xx : Nat) : Int) = Y := ⟨_, rfl⟩
  obtain ⟨Z, hZ⟩ : ∃ Z : Int, ((z + (dd + xx) : Nat) : Int) = Z := ⟨_, rfl⟩
  rw [hX] at hw1 ⊢
  rw [hY] at hw2 hw3
  rw [hZ] at hw3 ⊢
  clear hX hY hZ hz hd hx
  obtain ⟨d, hd⟩ : ∃ d, w.heap.size = d := ⟨_, rfl⟩
  obtain ⟨W, hW⟩ : ∃ W, (w.alloc (.cells #[.int .u64 0, .int .u64 0, .int .u64 u, .int .u64 v, .int .u64 z] 56)).alloc (.cells #[.int .u64 0, .int .u64 0, .int .u64 0, .int .u64 0, .int .u64 0] 56) = W := ⟨_, rfl⟩
  have b0 : Below w.heap.size w W := by rw [← hW]; exact Old.alloc (Old.alloc (Below.refl _ _) _) _
  have B0 : Blk W d 56 #[.int .u64 0, .int .u64 0, .int .u64 u, .int .u64 v, .int .u64 z] := by rw [← hW, ← hd]; exact (Blk.new _ _ _).alloc _
  have B1 : Blk W (d + 1) 56 #[.int .u64 0, .int .u64 0, .int .u64 0, .int .u64 0, .int .u64 0] := by rw [← hW, ← hd]; exact Blk.new' (by simp)
  have q0 : W.cell? ⟨d, 0, none⟩ = some (.int .u64 0) := B0.cell 0
  have q1 : W.cell? ⟨d, 1, none⟩ = some (.int .u64 0) := B0.cell 1
  have q2 : W.cell? ⟨d, 2, none⟩ = some (.int .u64 u) := B0.cell 2
  have q3 : W.cell? ⟨d, 3, none⟩ = some (.int .u64 v) := B0.cell 3
  have q4 : W.cell? ⟨d, 4, none⟩ = some (.int .u64 z) := B0.cell 4
  have f2 := B0.frozen 2
  have f4 := B0.frozen 4
  have r0 : W.cell? ⟨d + 1, 0, none⟩ = some (.int .u64 0) := B1.cell 0
  have r1 : W.cell? ⟨d + 1, 1, none⟩ = some (.int .u64 0) := B1.cell 1
  have r2 : W.cell? ⟨d + 1, 2, none⟩ = some (.int .u64 0) := B1.cell 2
  have r3 : W.cell? ⟨d + 1, 3, none⟩ = some (.int .u64 0) := B1.cell 3
  have r4 : W.cell? ⟨d + 1, 4, none⟩ = some (.int .u64 0) := B1.cell 4
  have g0 := B1.frozen 0
  have g1 := B1.frozen 1
  have g2 := B1.frozen 2
  have g3 := B1.frozen 3
  have g4 := B1.frozen 4
  have hlt := B1.lt
  go_enter Tryz.func17, Tryz.ntmps17
  go_wp2_with fail
  have BX := ((B1.far (p := ⟨d, 2, none⟩) (by show d + 1 ≠ d; omega) (.int .u64 X)).far (p := ⟨d, 4, none⟩) (by show d + 1 ≠ d; omega) (.int .u64 Z)).row [.int .u64 0, .int .u64 0, .int .u64 X, .int .u64 v, .int .u64 Z] rfl
  refine bodyPost_ret (ret_cell rfl rfl BX Tryz.underlying56 (by kernel_rfl)) rfl ?_
  refine ⟨rfl, ?_⟩
  have hb := (b0.setCell (p := ⟨d, 2, none⟩) (by show w.heap.size ≤ d; omega) (.int .u64 X)).setCell (p := ⟨d, 4, none⟩) (by show w.heap.size ≤ d; omega) (.int .u64 Z)
  exact below_setCells (g := d + 1) (by omega) [.int .u64 0, .int .u64 0, .int .u64 X, .int .u64 v, .int .u64 Z] 0 _ hb
end Go.Proofs.YtlafdmmjbkdkaaaGreatDoor

namespace Go.Proofs.YtlafdmmjbkdkaaaGreatDoor
open Go.RowKit

/-- A file of version 2. -/
def fileT (u v z : Nat) (s ix : List UInt8) : List UInt8 := ((10 :: (pt ++ hdBytes 0 0 (u : Nat) (v : Nat) (z : Nat))) ++ List.replicate (u - 51) 0) ++ s ++ List.replicate (z - (u + s.length)) 0 ++ ix

set_option maxRecDepth 100000 in
set_option maxHeartbeats 8000000 in
theorem fileBytes_any (u v z : Nat) (s ix : List UInt8) (w : World) (hu : 51 ≤ u) (hu2 : u ≤ 1000) (hv : v ≤ 100000000) (hz : z ≤ 100000000) (hs : s.length ≤ 100000000) (hix : ix.length ≤ 100000000) :
    Calls Tryz.prog 19 #[.agg #[.int .u64 0, .int .u64 0, .int .u64 u, .int .u64 v, .int .u64 z], .string ⟨s.toArray⟩, .string ⟨ix.toArray⟩] w fun e w' => e = .returned (.string ⟨(fileT u v z s ix).toArray⟩) ∧ Below w.heap.size w w' := by
  obtain ⟨i0, hi0, hz0, hz1, hz2⟩ := info_parts info5
  obtain ⟨d, hd⟩ : ∃ d, w.heap.size = d := ⟨_, rfl⟩
  obtain ⟨W, hW⟩ : ∃ W, w.alloc (.cells #[.int .u64 0, .int .u64 0, .int .u64 u, .int .u64 v, .int .u64 z] 56) = W := ⟨_, rfl⟩
  have b0 : Below w.heap.size w W := by rw [← hW]; exact Old.alloc (Below.refl _ _) _
  have B0 : Blk W d 56 #[.int .u64 0, .int .u64 0, .int .u64 u, .int .u64 v, .int .u64 z] := by rw [← hW, ← hd]; exact Blk.new _ _ _
  have q0 : W.cell? ⟨d, 0, none⟩ = some (.int .u64 0) := B0.cell 0
  have q1 : W.cell? ⟨d, 1, none⟩ = some (.int .u64 0) := B0.cell 1
  have q2 : W.cell? ⟨d, 2, none⟩ = some (.int .u64 u) := B0.cell 2
  have q3 : W.cell? ⟨d, 3, none⟩ = some (.int .u64 v) := B0.cell 3
  have q4 : W.cell? ⟨d, 4, none⟩ = some (.int .u64 z) := B0.cell 4
  have hhb := headBytes_any 0 0 (u : Nat) (v : Nat) (z : Nat) W (by omega) (by omega) (by omega) (by omega) (by omega) (by omega) (by omega) (by omega) (by omega) (by omega)
  obtain ⟨Z, hZ⟩ : ∃ Z, fileT u v z s ix = Z := ⟨_, rfl⟩
  rw [hZ]
  obtain ⟨hb40, hhb40⟩ : ∃ hb40, hdBytes 0 0 (u : Nat) (v : Nat) (z : Nat) = hb40 := ⟨_, rfl⟩
  have hbl : hb40.length = 40 := by rw [← hhb40]; simp [hdBytes, Lib.leBytes_length]
  rw [hhb40] at hhb
  have happ := sp_app
  have hcv := fun W (l : List UInt8) => Lib.run_convert_string_bytes (P := Tryz.prog) W 9 45 5 ⟨l.toArray⟩ Tryz.underlying9 Tryz.underlying45 Tryz.underlying5
  have hsz : ∀ l : List UInt8, (⟨l.toArray⟩ : ByteArray).size = l.length := fun l => by simp [ByteArray.size]
  simp only [hsz] at hcv
  obtain ⟨P, hP⟩ : ∃ P, (10 : UInt8) :: (pt ++ hb40) = P := ⟨_, rfl⟩
  have hPl : P.length = 51 := by rw [← hP]; simp [pt, hbl]
  have H := Lib.hid (And.intro hhb (And.intro hZ (And.intro hhb40 (And.intro hP (And.intro hPl (And.intro hcv (And.intro B0 (And.intro hi0 (And.intro hz0 (And.intro hz1 hz2))))))))))
  clear hhb hZ hhb40 hP hPl hcv hsz B0 hi0 hz0 hz1 hz2
  go_enter Tryz.func19, Tryz.ntmps19
  go_wp2_with fail
  clear hW hd
  refine H.out.1.mono ?_
  rintro e w1 ⟨rfl, b1⟩
  have hcv := H.out.2.2.2.2.2.1 w1 P
  have hRow := rowB_bytes w1 5 P (by rw [H.out.2.2.2.2.1]; omega)
  have hb1 := bw_below w1 5 ⟨P.toArray⟩
  rw [H.out.2.2.2.2.1] at hcv hRow
  have hle : ((10 : UInt8) :: 161 :: 103 :: 118 :: 101 :: 114 :: 115 :: 105 :: 111 :: 110 :: 2 :: hb40) = P := H.out.2.2.2.1
  obtain ⟨cap0, hcap⟩ : ∃ cap0, grownCap w1 51 0 5 = cap0 := ⟨_, rfl⟩
  obtain ⟨W2, hW2⟩ : ∃ W2, Lib.bytesWorld w1 5 ⟨P.toArray⟩ = W2 := ⟨_, rfl⟩
  rw [hcap, hW2] at hcv
  rw [hcap, hW2] at hRow
  rw [hW2] at hb1
  have hcv2 : (convert 9 45 (.string ⟨((10 : UInt8) :: 161 :: 103 :: 118 :: 101 :: 114 :: 115 :: 105 :: 111 :: 110 :: 2 :: hb40).toArray⟩)).run Tryz.prog w1 = .ok (.slice (some ⟨w1.heap.size, 0, none⟩) 51 cap0) W2 := by rw [hle]; exact hcv
  have hB2 := (H.out.2.2.2.2.2.2.1.old b1).old hb1
  have hb02 := Old.trans b0 (Old.trans b1 hb1)
  have hdl := H.out.2.2.2.2.2.2.1.lt
  have hs1 := b1.size
  have hs0 := b0.size
  clear q0 q1 q2 q3 q4 hcv hle hcap hW2 b0 b1 hb1
  go_wp2_with fail
  obtain ⟨g0, hg0⟩ : ∃ g0, w1.heap.size = g0 := ⟨_, rfl⟩
  rw [hg0] at hRow
  simp only [hg0]
  clear hcv2
  go_loopw [7] (fun vv wr => ∃ (g cap m : Nat), 51 + m ≤ u ∧ (∃ lm, vv = .slice (some ⟨g, 0, none⟩) lm cap ∧ Hid (lm = 51 + m)) ∧ RowB wr g cap (P ++ List.replicate m 0) ∧ g ≠ d ∧ w.heap.size ≤ g ∧ Blk wr d 56 #[.int .u64 0, .int .u64 0, .int .u64 u, .int .u64 v, .int .u64 z] ∧ Below w.heap.size w wr) (fun vv _ => match vv with
    | .slice _ a _ => u - a
    | _ => 0)
  case atStart => exact ⟨g0, cap0, 0, hu, ⟨51, rfl, Lib.hid rfl⟩, by simpa using hRow, by omega, by omega, hB2, hb02⟩
  case round =>
    clear hRow hB2 hb02
    obtain ⟨g, cap, m, hm, ⟨lm, rfl, hlm⟩, hR, hgd, hgw, hB, hbw⟩ := hrel
    have q2 : wr.cell? ⟨d, 2, none⟩ = some (.int .u64 u) := hB.cell 2
    have hFl : (P ++ List.replicate m 0).length = lm := by rw [List.length_append, H.out.2.2.2.2.1, List.length_replicate, hlm.out]
    have hlm9 : lm ≤ 2000 := by have := hlm.out; omega
    have hwl : IntKind.u64.wrap (lm : Int) = (lm : Int) := by rw [IntKind.wrap_u64]; omega
    by_cases hlt : lm < u
    · have hdd : decide ((lm : Int) < (u : Int)) = true := by rw [decide_eq_true_eq]; omega
      obtain ⟨g2, cap2, w2, hap, hR2, hk2, hg2⟩ := rowB_append wr i0 H.out.2.2.2.2.2.2.2.1 H.out.2.2.2.2.2.2.2.2.1 H.out.2.2.2.2.2.2.2.2.2.1 H.out.2.2.2.2.2.2.2.2.2.2 g cap _ 0 hR (by omega)
      rw [show (((0 : UInt8).toNat : Nat) : Int) = 0 from rfl, hFl] at hap
      have HAP := Lib.hid hap
      have hn2 : g2 ≠ d := by have := hB.lt; rcases hg2 with h | h <;> omega
      have hw2 : w.heap.size ≤ g2 := by have := hbw.size; rcases hg2 with h | h <;> omega
      have hBn := hB.kp hk2 (by simpa using fun h => hgd h.symm)
      have hbn : Below w.heap.size w w2 := below_kp hbw hk2 hbw.size (by simpa using hgw)
      have HX := Lib.hid (And.intro hR2 (And.intro hBn hbn))
      clear hap hR2 hk2 hBn hbn hR hB hbw hFl
      go_wp2_with (at_builtin; go_must (refine wpList_append_run rfl _ _ 45 45 rfl _ _ rfl rfl _ _ HAP.out ?_))
      go_roundw
      case rel =>
        refine ⟨g2, cap2, m + 1, by have := hlm.out; omega, ⟨lm + 1, rfl, Lib.hid (by have := hlm.out; omega)⟩, ?_, hn2, hw2, HX.out.2.1, HX.out.2.2⟩
        rw [List.replicate_succ', ← List.append_assoc]
        exact HX.out.1
      case measure =>
        simp only
        omega
    · have hdd : decide ((lm : Int) < (u : Int)) = false := by rw [decide_eq_false_iff_not]; omega
      have hmu : m = u - 51 := by have := hlm.out; omega
      rw [hmu] at hR hFl
      obtain ⟨F, hF⟩ : ∃ F, P ++ List.replicate (u - 51) 0 = F := ⟨_, rfl⟩
      rw [hF] at hR hFl
      obtain ⟨g2, cap2, w2, hap, hR2, hk2, hg2⟩ := rowB_appendS wr i0 H.out.2.2.2.2.2.2.2.1 H.out.2.2.2.2.2.2.2.2.1 H.out.2.2.2.2.2.2.2.2.2.1 H.out.2.2.2.2.2.2.2.2.2.2 g cap F s hR (by omega)
      rw [hFl] at hap
      have HAP := Lib.hid hap
      have hn2 : g2 ≠ d := by have := hB.lt; rcases hg2 with h | h <;> omega
      have hw2 : w.heap.size ≤ g2 := by have := hbw.size; rcases hg2 with h | h <;> omega
      have hBn := hB.kp hk2 (by simpa using fun h => hgd h.symm)
      have hbn : Below w.heap.size w w2 := below_kp hbw hk2 hbw.size (by simpa using hgw)
      have HX := Lib.hid (And.intro hR2 (And.intro hBn (And.intro hbn (And.intro hF hFl))))
      clear hap hR2 hk2 hBn hbn hR hB hbw hFl hF hmu
      go_wp2_with (at_builtin; go_must (refine wpList_append_run rfl _ _ 45 9 rfl _ _ rfl rfl _ _ HAP.out ?_))
      obtain ⟨N1, hN1⟩ : ∃ N1, (F ++ s).length = N1 := ⟨_, rfl⟩
      have hN1e : N1 = lm + s.length := by rw [← hN1, List.length_append, HX.out.2.2.2.2]
      go_loopw [7] (fun vv wr => ∃ (g cap m : Nat), (m = 0 ∨ N1 + m ≤ z) ∧ (∃ lm2, vv = .slice (some ⟨g, 0, none⟩) lm2 cap ∧ Hid (lm2 = N1 + m)) ∧ RowB wr g cap ((F ++ s) ++ List.replicate m 0) ∧ g ≠ d ∧ w.heap.size ≤ g ∧ Blk wr d 56 #[.int .u64 0, .int .u64 0, .int .u64 u, .int .u64 v, .int .u64 z] ∧ Below w.heap.size w wr) (fun vv _ => match vv with
        | .slice _ a _ => z - a
        | _ => 0)
      case atStart => exact ⟨g2, cap2, 0, .inl rfl, ⟨_, rfl, Lib.hid (by omega)⟩, by simpa using HX.out.1, hn2, hw2, HX.out.2.1, HX.out.2.2.1⟩
      case round =>
        obtain ⟨g, cap, m, hm, ⟨lm2, rfl, hlm⟩, hR, hgd, hgw, hB, hbw⟩ := hrel
        have q4 : wr.cell? ⟨d, 4, none⟩ = some (.int .u64 z) := hB.cell 4
        have hFl2 : ((F ++ s) ++ List.replicate m 0).length = lm2 := by rw [List.length_append, hN1, List.length_replicate, hlm.out]
        have hlm9 : lm2 ≤ 300000000 := by have := hlm.out; omega
        have hwl : IntKind.u64.wrap (lm2 : Int) = (lm2 : Int) := by rw [IntKind.wrap_u64]; omega
        have H9 := Lib.hid hlm9
        clear hN1e hlm9
        by_cases hzz : 0 < z
        · have hdz : decide ((0 : Int) < (z : Int)) = true := by rw [decide_eq_true_eq]; omega
          by_cases hlt : lm2 < z
          · have hdd : decide ((lm2 : Int) < (z : Int)) = true := by rw [decide_eq_true_eq]; omega
            obtain ⟨g3, cap3, w3, hap, hR3, hk3, hg3⟩ := rowB_append wr i0 H.out.2.2.2.2.2.2.2.1 H.out.2.2.2.2.2.2.2.2.1 H.out.2.2.2.2.2.2.2.2.2.1 H.out.2.2.2.2.2.2.2.2.2.2 g cap _ 0 hR (by have := H9.out; omega)
            rw [show (((0 : UInt8).toNat : Nat) : Int) = 0 from rfl, hFl2] at hap
            have HAP2 := Lib.hid hap
            have hn3 : g3 ≠ d := by have := hB.lt; rcases hg3 with h | h <;> omega
            have hw3 : w.heap.size ≤ g3 := by have := hbw.size; rcases hg3 with h | h <;> omega
            have hBn := hB.kp hk3 (by simpa using fun h => hgd h.symm)
            have hbn : Below w.heap.size w w3 := below_kp hbw hk3 hbw.size (by simpa using hgw)
            have HX2 := Lib.hid (And.intro hR3 (And.intro hBn hbn))
            clear hap hR3 hk3 hBn hbn hR hB hbw hFl2
            go_wp2_with (at_builtin; go_must (refine wpList_append_run rfl _ _ 45 45 rfl _ _ rfl rfl _ _ HAP2.out ?_))
            go_roundw
            case rel =>
              refine ⟨g3, cap3, m + 1, by have := hlm.out; omega, ⟨lm2 + 1, rfl, Lib.hid (by have := hlm.out; omega)⟩, ?_, hn3, hw3, HX2.out.2.1, HX2.out.2.2⟩
              rw [List.replicate_succ', ← List.append_assoc]
              exact HX2.out.1
            case measure =>
              simp only
              omega
          · have hdd : decide ((lm2 : Int) < (z : Int)) = false := by rw [decide_eq_false_iff_not]; omega
            have hmz : m = z - N1 := by have := hlm.out; omega
            rw [hmz] at hR hFl2
            obtain ⟨F2, hF2⟩ : ∃ F2, (F ++ s) ++ List.replicate (z - N1) 0 = F2 := ⟨_, rfl⟩
            rw [hF2] at hR hFl2
            obtain ⟨g3, cap3, w3, hap, hR3, hk3, hg3⟩ := rowB_appendS wr i0 H.out.2.2.2.2.2.2.2.1 H.out.2.2.2.2.2.2.2.2.1 H.out.2.2.2.2.2.2.2.2.2.1 H.out.2.2.2.2.2.2.2.2.2.2 g cap F2 ix hR (by have := H9.out; omega)
            rw [hFl2] at hap
            have HAP := Lib.hid hap
            have hbn : Below w.heap.size w w3 := below_kp hbw hk3 hbw.size (by simpa using hgw)
            have hZ2 : F2 ++ ix = Z := by
              rw [← hF2, ← HX.out.2.2.2.1, ← H.out.2.1, ← H.out.2.2.2.1, ← H.out.2.2.1]
              unfold fileT
              have hN : N1 = u + s.length := by
                have h1 := HX.out.2.2.2.2
                have h2 := HX.out.2.2.2.1
                have h3 := congrArg List.length h2
                rw [List.length_append, H.out.2.2.2.2.1, List.length_replicate] at h3
                rw [← hN1, List.length_append]
                omega
              rw [hN]
            have hcv : (convert 45 9 (.slice (some ⟨g3, 0, none⟩) (lm2 + ix.length) cap3)).run Tryz.prog w3 = .ok (.string ⟨Z.toArray⟩) w3 := by
              rw [← hZ2]
              exact conv_str (P := Tryz.prog) Tryz.underlying45 Tryz.underlying5 Tryz.underlying9 hR3.bs (by rw [List.length_append, hFl2])
            have HE := Lib.hid hbn
            clear hap hR3 hk3 hbn hR hB hbw hFl2 hmz hZ2
            go_wp2_with (at_builtin; go_must (refine wpList_append_run rfl _ _ 45 9 rfl _ _ rfl rfl _ _ HAP.out ?_))
            go_ret
            exact ⟨rfl, HE.out⟩
        · have hdz : decide ((0 : Int) < (z : Int)) = false := by rw [decide_eq_false_iff_not]; omega
          have hz0 : z = 0 := by omega
          have hlt : ¬ lm2 < z := by omega
          clear hz0
          have hmz : m = z - N1 := by have := hlm.out; omega
          rw [hmz] at hR hFl2
          obtain ⟨F2, hF2⟩ : ∃ F2, (F ++ s) ++ List.replicate (z - N1) 0 = F2 := ⟨_, rfl⟩
          rw [hF2] at hR hFl2
          obtain ⟨g3, cap3, w3, hap, hR3, hk3, hg3⟩ := rowB_appendS wr i0 H.out.2.2.2.2.2.2.2.1 H.out.2.2.2.2.2.2.2.2.1 H.out.2.2.2.2.2.2.2.2.2.1 H.out.2.2.2.2.2.2.2.2.2.2 g cap F2 ix hR (by have := H9.out; omega)
          rw [hFl2] at hap
          have HAP := Lib.hid hap
          have hbn : Below w.heap.size w w3 := below_kp hbw hk3 hbw.size (by simpa using hgw)
          have hZ2 : F2 ++ ix = Z := by
            rw [← hF2, ← HX.out.2.2.2.1, ← H.out.2.1, ← H.out.2.2.2.1, ← H.out.2.2.1]
            unfold fileT
            have hN : N1 = u + s.length := by
              have h1 := HX.out.2.2.2.2
              have h2 := HX.out.2.2.2.1
              have h3 := congrArg List.length h2
              rw [List.length_append, H.out.2.2.2.2.1, List.length_replicate] at h3
              rw [← hN1, List.length_append]
              omega
            rw [hN]
          have hcv : (convert 45 9 (.slice (some ⟨g3, 0, none⟩) (lm2 + ix.length) cap3)).run Tryz.prog w3 = .ok (.string ⟨Z.toArray⟩) w3 := by
            rw [← hZ2]
            exact conv_str (P := Tryz.prog) Tryz.underlying45 Tryz.underlying5 Tryz.underlying9 hR3.bs (by rw [List.length_append, hFl2])
          have HE := Lib.hid hbn
          clear hap hR3 hk3 hbn hR hB hbw hFl2 hmz hZ2
          go_wp2_with (at_builtin; go_must (refine wpList_append_run rfl _ _ 45 9 rfl _ _ rfl rfl _ _ HAP.out ?_))
          go_ret
          exact ⟨rfl, HE.out⟩
end Go.Proofs.YtlafdmmjbkdkaaaGreatDoor

namespace Go.Proofs.YtlafdmmjbkdkaaaGreatDoor
open Go.RowKit

theorem hdBytes_len (a b c d e : Int) : (hdBytes a b c d e).length = 40 := by simp [hdBytes, Lib.leBytes_length]
theorem pt_len : pt.length = 10 := by decide

/-- The parts of a file of version 2. -/
theorem fileT_ok (u v z : Nat) (s ix : List UInt8) (hu : 51 ≤ u) :
    fileT u v z s ix = 10 :: (pt ++ (hdBytes 0 0 (u : Nat) (v : Nat) (z : Nat) ++ (List.replicate (u - 51) 0 ++ (s ++ (List.replicate (z - (u + s.length)) 0 ++ ix))))) ∧
    ((fileT u v z s ix).drop 11).take 40 = hdBytes 0 0 (u : Nat) (v : Nat) (z : Nat) ∧ ((fileT u v z s ix).drop u).take s.length = s ∧
    (fileT u v z s ix).length = u + s.length + (z - (u + s.length)) + ix.length := by
  have h0 : fileT u v z s ix = 10 :: (pt ++ (hdBytes 0 0 (u : Nat) (v : Nat) (z : Nat) ++ (List.replicate (u - 51) 0 ++ (s ++ (List.replicate (z - (u + s.length)) 0 ++ ix))))) := by
    simp [fileT, List.append_assoc]
  have hH := hdBytes_len 0 0 (u : Nat) (v : Nat) (z : Nat)
  obtain ⟨hb, hhb⟩ : ∃ hb, hdBytes 0 0 (u : Nat) (v : Nat) (z : Nat) = hb := ⟨_, rfl⟩
  rw [hhb] at hH h0 ⊢
  have hpt := pt_len
  refine ⟨h0, ?_, ?_, ?_⟩
  · rw [h0]
    have e : (10 :: (pt ++ (hb ++ (List.replicate (u - 51) 0 ++ (s ++ (List.replicate (z - (u + s.length)) 0 ++ ix))))) : List UInt8).drop 11 = hb ++ (List.replicate (u - 51) 0 ++ (s ++ (List.replicate (z - (u + s.length)) 0 ++ ix))) := by
      rw [List.drop_succ_cons, List.drop_left' hpt]
    rw [e, List.take_left' hH]
  · rw [h0]
    have e1 : (10 :: (pt ++ (hb ++ (List.replicate (u - 51) 0 ++ (s ++ (List.replicate (z - (u + s.length)) 0 ++ ix))))) : List UInt8) = (10 :: (pt ++ (hb ++ List.replicate (u - 51) 0))) ++ (s ++ (List.replicate (z - (u + s.length)) 0 ++ ix)) := by simp [List.append_assoc]
    rw [e1, List.drop_left' (by simp [hpt, hH]; omega), List.take_left' rfl]
  · rw [h0]
    simp [hpt, hH]
    omega
end Go.Proofs.YtlafdmmjbkdkaaaGreatDoor
