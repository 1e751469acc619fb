/-
  The walk of cid.CidFromReader over a bytes.Reader of bytes that begin as an identifier of version 1 of which bytes are missing. Conditions: as each contract says.
-/
import Derived.Test.YtgkhofnedhlgdaaDoorCfd
namespace Go.Proofs.YtgkhofnedhlgdaaDoor
open Go.RowKit

theorem v1_short {l : List UInt8} {codec m code m3 size m4 : Nat} (hr : cdRd l = none) (h1 : uvRd l 0 0 = .ok 1 1) (h2 : uvRd (l.drop 1) 0 0 = .ok codec m) (h3 : uvRd (l.drop (1 + m)) 0 0 = .ok code m3) (h4 : uvRd (l.drop (1 + m + m3)) 0 0 = .ok size m4) :
    l.length - (1 + m + m3 + m4) < size := by
  have hv : ¬ isV0 l = true := by
    obtain ⟨c1, _⟩ := uvRd_canon0 h1
    rw [uv1] at c1
    match l, c1 with
    | y :: l', c1 =>
      simp at c1
      subst c1
      simp [isV0]
  rw [cdRd, if_neg hv, h1] at hr
  simp only [if_true, h2] at hr
  rw [mhRd, h3] at hr
  simp only [List.drop_drop, h4, List.length_drop] at hr
  apply Classical.byContradiction
  intro hge
  rw [if_neg (by omega)] at hr
  cases hr

set_option maxRecDepth 100000 in
set_option maxHeartbeats 4000000 in
theorem cidFromReader_bad4 (r g o n c : Nat) (l : List UInt8) (aE aU aO aM : Addr) (w : World) (h : Rdr w r g o n c 0) (hc : Bs w g o l) (hn : n = l.length) (hnc : n ≤ c) (hl : l.length ≤ 1000000) (hg : g ≠ r) (hglt : g < w.heap.size) (hr : cdRd l = none) (codec m code m3 size m4 : Nat) (f1 : uvRd l 0 0 = .ok 1 1) (f2 : uvRd (l.drop 1) 0 0 = .ok codec m) (f3 : uvRd (l.drop (1 + m)) 0 0 = .ok code m3) (f4 : uvRd (l.drop (1 + m + m3)) 0 0 = .ok size m4) (eS : Sr w 4) (rS : r ≠ 4)
    (xE : Eh w aE) (xU : Eh w aU) (xO : Eh w aO) (xM : Eh w aM) (yU : aU ≠ aE) (yO : aO ≠ aE) (yM : aM ≠ aE) (zE : aE.block ≠ r) (zU : aU.block ≠ r) (zO : aO.block ≠ r) (zM : aM.block ≠ r)
    (eE : Ee w 0 aE) (eU : Ee w 1 aU) (eO : Ee w 2 aO) (eM : Ee w 3 aM) (e2 : Er w 5) (e3 : Er w 7)
    (rE : r ≠ 0) (rU : r ≠ 1) (rO : r ≠ 2) (rM : r ≠ 3) (r2 : r ≠ 5) (r3 : r ≠ 7) :
    Calls Tryd.prog 39 #[.iface 49 (.pointer (some ⟨r, 0, none⟩))] w fun e w' => (∃ (q : Int) (s : ByteArray) (v : Value), e = .returned (.tuple #[.int .i64 q, .agg #[.string s], v]) ∧ CfeT l aE v) ∧ Kp [r] w w' := by
  obtain ⟨i0, hi0, hz0, hz1, hz2⟩ := info_parts info5
  have gE := eE.lt
  have gU := eU.lt
  have gO := eO.lt
  have gM := eM.lt
  have hrl := h.lt
  have HN := Lib.hid (And.intro hn (And.intro hnc hl))
  clear hn hnc hl
  have HP := Lib.hid (And.intro f1 (And.intro f2 (And.intro f3 (And.intro f4 (v1_short hr f1 f2 f3 f4)))))
  clear f1 f2 f3 f4
  have hmk : ∀ W : World, (Instr.makeSlice 51 (.int .i64 0) (.int .i64 64)).run Tryd.prog W = .ok (.slice (some ⟨W.heap.size, 0, none⟩) 0 64) (W.alloc (.cells (List.replicate 64 (.int .u8 0)).toArray 5)) := by
    intro W
    have hr := run_make (P := Tryd.prog) W 51 5 i0 (.int .u8 0) Tryd.underlying51 hi0 hz0 .i64 .i64 0 64 (by omega) (by omega) (by rw [hz2]; omega) (by omega)
    have ht0 : madeCells #[Value.int .u8 0] 64 = (List.replicate 64 (Value.int .u8 0)).toArray := by
      rw [← toList_madeCells_one (.int .u8 0) 64]
    rw [← ht0]
    simpa [hz1, Value.cells] using hr
  obtain ⟨zs, hzs⟩ : ∃ zs, List.replicate 64 (Value.int .u8 0) = zs := ⟨_, rfl⟩
  rw [hzs] at hmk
  have hzl : zs.length = 64 := by rw [← hzs]; rfl
  clear hzs
  obtain ⟨V, hV⟩ : ∃ V, (w.alloc (.cells #[.string ⟨#[]⟩] 61)).alloc (.cells zs.toArray 5) = V := ⟨_, rfl⟩
  have bV : Below w.heap.size w V := by rw [← hV]; exact Old.alloc (Old.alloc (Below.refl _ _) _) _
  have AV : Blk V w.heap.size 61 #[.string ⟨#[]⟩] := by rw [← hV]; exact (Blk.new _ _ _).alloc _
  have DV : Blk V (w.heap.size + 1) 5 zs.toArray := by
    rw [← hV]
    have := Blk.new (w.alloc (.cells #[.string ⟨#[]⟩] 61)) 5 zs.toArray
    simpa using this
  go_enter Tryd.func39, Tryd.ntmps39
  go_wp2_with fail
  clear hV hmk
  have zV := DV.lt
  refine (toBuf_any r (w.heap.size + 1) 64 V).mono ?_
  rintro e w1 ⟨b, rfl, hVb, BB, b1⟩
  have b01 := Old.trans bV b1
  have A1 := AV.old b1
  have D1 := DV.old b1
  have R1 := h.old b01
  have c1 := hc.old b01
  have hbb : Bbr b r (w.heap.size + 1) g o n c l 0 w1 := ⟨R1, BB, ⟨zs, hzl, by simpa [Lib.byteCells] using D1⟩, c1⟩
  have hD : r ≠ b ∧ r ≠ w.heap.size + 1 ∧ b ≠ w.heap.size + 1 ∧ g ≠ r ∧ g ≠ b ∧ g ≠ w.heap.size + 1 := by omega
  have rr : r ∈ [r] ∨ w.heap.size + 1 ≤ r := .inl (by simp)
  have rb : b ∈ [r] ∨ w.heap.size + 1 ≤ b := .inr (by omega)
  have rd : w.heap.size + 1 ∈ [r] ∨ w.heap.size + 1 ≤ w.heap.size + 1 := .inr (by omega)
  have K1 : Kb w.heap.size [r] w w1 := Kb.of_below b01 [r]
  have hA : w.heap.size ≠ r ∧ w.heap.size ≠ b := by omega
  have HR := Lib.hid (And.intro rr (And.intro rb (And.intro rd (And.intro hD (And.intro hA (And.intro hr hbb))))))
  clear hD rr rb rd hA hr h hc bV DV D1 BB b1 R1 c1 AV hzl hbb
  have gE2 : Er w1 5 := e2.old b01
  have gE3 : Er w1 7 := e3.old b01
  have g2l : 5 < w.heap.size := by obtain ⟨t, p, h⟩ := e2; exact World.block_lt_of_cell? w _ h
  have g3l : 7 < w.heap.size := by obtain ⟨t, p, h⟩ := e3; exact World.block_lt_of_cell? w _ h
  have nE : 0 < w.heap.size + 1 ∧ 0 ∉ [r] := ⟨by omega, by simpa using fun h => rE h.symm⟩
  have nU : 1 < w.heap.size + 1 ∧ 1 ∉ [r] := ⟨by omega, by simpa using fun h => rU h.symm⟩
  have nO : 2 < w.heap.size + 1 ∧ 2 ∉ [r] := ⟨by omega, by simpa using fun h => rO h.symm⟩
  have nM : 3 < w.heap.size + 1 ∧ 3 ∉ [r] := ⟨by omega, by simpa using fun h => rM h.symm⟩
  have n2 : 5 < w.heap.size + 1 ∧ 5 ∉ [r] := ⟨by omega, by simpa using fun h => r2 h.symm⟩
  have n3 : 7 < w.heap.size + 1 ∧ 7 ∉ [r] := ⟨by omega, by simpa using fun h => r3 h.symm⟩
  have NN := Lib.hid (And.intro nE (And.intro nU (And.intro nO (And.intro nM (And.intro n2 n3)))))
  have eE1 := eE.old b01
  have eU1 := eU.old b01
  have eO1 := eO.old b01
  have eM1 := eM.old b01
  have s1 := b01.size
  have s1' : w.heap.size + 1 ≤ w1.heap.size := by have := A1.lt; omega
  have gS := eS.old b01
  have gSl : 4 < w.heap.size := by obtain ⟨s, h⟩ := eS; exact World.block_lt_of_cell? w _ h
  have HS := Lib.hid (And.intro gS (And.intro gSl (And.intro (And.intro xE zE) (And.intro (And.intro xU zU) (And.intro (And.intro xO zO) (And.intro (And.intro xM zM) (And.intro yU (And.intro yO (And.intro yM rS)))))))))
  clear gS gSl eS xE xU xO xM yU yO yM rS zE zU zO zM
  clear nE nU nO nM n2 n3 eE eU eO eM e2 e3 rE rU rO rM r2 r3 gE gU gO gM g2l g3l
  have HE := Lib.hid (And.intro eE1 (And.intro eU1 (And.intro eO1 (And.intro eM1 (And.intro gE2 gE3)))))
  clear eE1 eU1 eO1 eM1 gE2 gE3
  obtain ⟨D, hDd⟩ : ∃ D, w.heap.size + 1 = D := ⟨_, rfl⟩
  obtain ⟨rr, rb, rd, hD, hA, hr, hbb⟩ := HR.out
  rw [hDd] at rr rb rd hD hbb
  have HDd := Lib.hid hDd
  go_wp2_with fail
  have hu0 : uvRd (l.drop 0) 0 0 = .ok 1 1 := by rw [List.drop_zero]; exact HP.out.1
  have HU := Lib.hid (fun (i y s : Nat) (W : World) (h : Bbr b r D g o n c l i W) (hu : uvRd (l.drop i) 0 0 = .ok y s) (hi : i ≤ n) (hi54 : i ≤ 54) (k : Kb D [r] w1 W) (hDs : D ≤ W.heap.size) =>
    bbUvarint_ok b r D g o n c i D [r] l aE aU aO aM y s W h hu HN.out.1 hi hi54 (by have := HN.out.2.2; omega) hD rr rb rd hDs
      (HE.out.1.kb k (hDd ▸ NN.out.1.1) NN.out.1.2) (HE.out.2.1.kb k (hDd ▸ NN.out.2.1.1) NN.out.2.1.2) (HE.out.2.2.1.kb k (hDd ▸ NN.out.2.2.1.1) NN.out.2.2.1.2) (HE.out.2.2.2.1.kb k (hDd ▸ NN.out.2.2.2.1.1) NN.out.2.2.2.1.2)
      (hDd ▸ NN.out.1) (hDd ▸ NN.out.2.1) (hDd ▸ NN.out.2.2.1) (hDd ▸ NN.out.2.2.2.1) (by have := NN.out.1.2; simpa using fun h => this (by simp [h])))
  have hs1 : D ≤ w1.heap.size := by rw [← hDd]; exact s1'
  have HA := Lib.hid (And.intro hbb (And.intro hs1 (And.intro hDd (And.intro hA hD))))
  obtain ⟨_, u1b, u1c, _⟩ := uvRd_ok0 HP.out.2.1
  obtain ⟨_, u2b, u2c, _⟩ := uvRd_ok0 HP.out.2.2.1
  obtain ⟨_, u3b, u3c, u3d⟩ := uvRd_ok0 HP.out.2.2.2.1
  have ln := HN.out.1
  simp only [List.length_drop] at u1b u2b u3b
  have U0 := Lib.hid hu0
  clear hr rr rb rd hD hA hs1 hbb hu0
  refine (HU.out 0 1 1 w1 HA.out.1 U0.out (Nat.zero_le _) (by omega) Kb.refl HA.out.2.1).mono ?_
  rintro e w2 ⟨rfl, B2, k2⟩
  rw [Nat.zero_add] at B2
  go_wp2_with fail
  have hn1 : 1 ≤ n := by
    rw [ln]
    have := (uvRd_ok0 HP.out.1).2.1
    exact this
  refine (HU.out 1 codec m w2 B2 HP.out.2.1 hn1 (by omega) k2 (Nat.le_trans HA.out.2.1 k2.size)).mono ?_
  rintro e w3 ⟨rfl, B3, k3⟩
  have k13 := k2.trans k3
  have q3 : w3.cell? ⟨b, 2, none⟩ = some (.slice (some ⟨D, 0, none⟩) (1 + m) 64) := B3.2.1.cell 2
  clear B2 k2 k3
  go_wp2_with fail
  refine (HU.out (1 + m) code m3 w3 B3 HP.out.2.2.1 (by omega) (by omega) k13 (Nat.le_trans HA.out.2.1 k13.size)).mono ?_
  rintro e w4 ⟨rfl, B4, k4⟩
  have k14 := k13.trans k4
  clear B3 k13 k4 q3
  go_wp2_with fail
  refine (HU.out (1 + m + m3) size m4 w4 B4 HP.out.2.2.2.1 (by omega) (by omega) k14 (Nat.le_trans HA.out.2.1 k14.size)).mono ?_
  rintro e w5 ⟨rfl, B5, k5⟩
  have k15 := k14.trans k5
  clear B4 k14 k5
  obtain ⟨p, hp⟩ : ∃ p, 1 + m + m3 + m4 = p := ⟨_, rfl⟩
  rw [hp] at B5
  have hpn : p ≤ n := by omega
  have hshort : n - p < size := by have := HP.out.2.2.2.2; rw [hp] at this; omega
  obtain ⟨dl, hdl⟩ : ∃ dl : Int, (size : Int) = dl := ⟨_, rfl⟩
  have hp64 : p ≤ 28 := by omega
  rw [hdl]
  obtain ⟨R5, BB5, ⟨zs5, hz5, D5⟩, c5⟩ := B5
  have q5 : w5.cell? ⟨b, 2, none⟩ = some (.slice (some ⟨D, 0, none⟩) p 64) := BB5.cell 2
  have f5 := BB5.frozen 2
  have HQ := Lib.hid (And.intro hp (And.intro hpn (And.intro hshort (And.intro u1c (And.intro u2c u3c)))))
  have A5 := A1.kb k15 (by have := HA.out.2.2.1; omega) (by simpa using HA.out.2.2.2.1.1)
  have K5 : Kb w.heap.size [r] w w5 := K1.trans (k15.mono (by have := HA.out.2.2.1; omega))
  have HL := Lib.hid (show ¬ l = [] from fun h => by have := HP.out.1; rw [h] at this; cases this)
  clear hp HU u1b u1c u2b u2c u3b u3c ln hn1 hpn hshort
  by_cases hbg : (33554432 : Int) < dl
  · have hbig : decide (33554432 < dl) = true := by simpa using hbg
    obtain ⟨sU, hU5⟩ := HS.out.1.kb k15 (by have := HS.out.2.1; have := HA.out.2.2.1; omega) (by simpa using fun h => HS.out.2.2.2.2.2.2.2.2.2 h.symm)
    have HF2 := Lib.hid (show ∀ W', Below w5.heap.size w5 W' → Blk W' w.heap.size 61 #[.string ⟨#[]⟩] ∧ W'.cell? ⟨4, 0, none⟩ = some (.string sU) ∧ W'.cell? ⟨w.heap.size, 0, none⟩ = some (.string ⟨#[]⟩) ∧ W'.frozen? ⟨w.heap.size, 0, none⟩ = false ∧ W'.cell? ⟨b, 2, none⟩ = some (.slice (some ⟨D, 0, none⟩) p 64) from
      fun W' hb' => ⟨A5.old hb', (hb'.cell (p := ⟨4, 0, none⟩) (World.block_lt_of_cell? w5 _ hU5)).trans hU5, (A5.old hb').cell 0, (A5.old hb').frozen 0, (BB5.old hb').cell 2⟩)
    clear hbg hdl
    go_wp2_with fail
    refine wp_region_noPanic ?_
    go_region_with (go_at_call 56; refine (errorsNew_any _ _).mono ?_; rintro _ w6 ⟨⟨t, p, rfl⟩, b3⟩; have b23 : Below w5.heap.size w5 w6 := ((Below.refl _ _).drew).trans b3; obtain ⟨A6, u6, a6, fa6, q6⟩ := HF2.out w6 b23)
    all_goals refine NoPanic.normal ?_
    all_goals go_wp2_with fail
    all_goals have K6 : Kb w.heap.size [r] w w6 := K5.trans (Kb.of_below (b23.mono K5.size) [r])
    all_goals refine bodyPost_ret (ret_tmp_cell_tmp rfl rfl (A6.set_ 0 (.string sU)) Tryd.underlying61 (by kernel_rfl)) rfl ?_
    all_goals refine ⟨⟨_, sU, _, rfl, (by unfold CfeT; rw [if_neg HL.out]; exact ⟨_, rfl⟩)⟩, ?_⟩
    all_goals first | exact ((K6.setCell (p := ⟨w.heap.size, 0, none⟩) (.inr (Nat.le_refl _)) _).drewN 1).kp (by simp) | exact (K6.setCell (p := ⟨w.heap.size, 0, none⟩) (.inr (Nat.le_refl _)) _).kp (by simp)
  · obtain ⟨k, hk⟩ : ∃ k, p + size = k := ⟨_, rfl⟩
    have hs32 : size ≤ 33554432 := by omega
    have hbig : decide (33554432 < dl) = false := by simpa using hbg
    have hpk : (p : Int) + dl = (k : Int) := by omega
    have hwd : IntKind.i64.wrap dl = dl := by rw [IntKind.wrap_i64]; omega
    have hwk : IntKind.i64.wrap (k : Int) = (k : Int) := by rw [IntKind.wrap_i64]; omega
    have hpk' : p ≤ k := by omega
    have hk8 : k ≤ 33554460 := by omega
    have HK := Lib.hid hk
    have HDL := Lib.hid hdl
    clear hdl hbg hk hs32
    by_cases hfit : k ≤ 64
    · go_wp2_with fail
      have BB6 := BB5.set_ 2 (.slice (some ⟨D, 0, none⟩) k 64)
      have R6 : Rdr (w5.setCell ⟨b, 2, none⟩ (.slice (some ⟨D, 0, none⟩) k 64)) r g o n c p := by obtain ⟨q, R5⟩ := R5; exact ⟨q, R5.far (p := ⟨b, 2, none⟩) HA.out.2.2.2.2.1 _⟩
      have D6 := D5.far (p := ⟨b, 2, none⟩) (fun h => HA.out.2.2.2.2.2.2.1 h.symm) (.slice (some ⟨D, 0, none⟩) k 64)
      have c6 := c5.far (p := ⟨b, 2, none⟩) HA.out.2.2.2.2.2.2.2.2.1 (.slice (some ⟨D, 0, none⟩) k 64)
      have A6 := (A1.kb k15 (by have := HA.out.2.2.1; omega) (by simpa using HA.out.2.2.2.1.1)).far (p := ⟨b, 2, none⟩) HA.out.2.2.2.1.2 (.slice (some ⟨D, 0, none⟩) k 64)
      have k16 : Kb D [r] w1 (w5.setCell ⟨b, 2, none⟩ (.slice (some ⟨D, 0, none⟩) k 64)) := k15.setCell (p := ⟨b, 2, none⟩) (.inr (by show D ≤ b; have := HA.out.2.2.1; omega)) _
      clear q5 f5 BB5 R5 D5 c5 k15
      generalize w5.setCell ⟨b, 2, none⟩ (.slice (some ⟨D, 0, none⟩) k 64) = w6 at *
      have hz6 : k - p ≤ zs5.length := by omega
      have hE6 : D ≠ r ∧ g ≠ D ∧ D ≠ b ∧ D ≤ D ∧ k ≤ 64 := ⟨fun h => HA.out.2.2.2.2.2.1 h.symm, HA.out.2.2.2.2.2.2.2.2.2, fun h => HA.out.2.2.2.2.2.2.1 h.symm, Nat.le_refl _, hfit⟩
      have hrf := readFull_any r g o n c p D p (k - p) (64 - p) l (Lib.byteCells (l.take p)) zs5 5 aE aU w6 R6 c6 HN.out.1 (by have := HQ.out.2.1; omega) HN.out.2.1 (by have := HN.out.2.2; omega) D6 (by rw [Lib.byteCells_length, List.length_take]; have := HQ.out.2.1; have := HN.out.1; omega) hz6 (by omega) (by omega) hE6.1 hE6.2.1 HA.out.2.2.2.2.2.2.2.1
        (HE.out.1.kb k16 (HA.out.2.2.1 ▸ NN.out.1.1) NN.out.1.2) (HE.out.2.1.kb k16 (HA.out.2.2.1 ▸ NN.out.2.1.1) NN.out.2.1.2) ⟨by have := NN.out.1.2; simpa using this, by have := NN.out.1.1; have := HA.out.2.2.1; omega⟩ ⟨by have := NN.out.2.1.2; simpa using this, by have := NN.out.2.1.1; have := HA.out.2.2.1; omega⟩
      have HF := Lib.hid hrf
      clear hrf R6 c6 D6
      refine HF.out.mono ?_
      rintro e w7 ⟨hK7, _, h7⟩
      have he := h7 (by have := HQ.out.2.2.1; have := HK.out; omega)
      obtain ⟨aX, haX⟩ : ∃ aX, (if p = n then aE else aU) = aX := ⟨_, rfl⟩
      obtain ⟨K, hKK⟩ : ∃ K, n - p = K := ⟨_, rfl⟩
      rw [haX, hKK] at he
      have hKn : K ≤ 1000000 := by have := HN.out.1; have := HN.out.2.2; omega
      have k17 : Kb D [r] w1 w7 := k16.trans (hK7 D [r] (.inl (by simp)) (.inr hE6.2.2.2.1))
      have BB7 := BB6.kb (hK7 (b + 1) [r, D] (.inl (by simp)) (.inl (by simp))) (Nat.lt_succ_self _) (by simp; exact ⟨fun h => HA.out.2.2.2.2.1 h.symm, fun h => hE6.2.2.1 h.symm⟩)
      have A7 := A6.kb (hK7 (w.heap.size + 1) [r, D] (.inl (by simp)) (.inl (by simp))) (Nat.lt_succ_self _) (by simp; exact ⟨HA.out.2.2.2.1.1, by have := HA.out.2.2.1; have := hE6.2.2.2.1; omega⟩)
      have K7 : Kb w.heap.size [r] w w7 := K1.trans (k17.mono (by have := HA.out.2.2.1; omega))
      obtain ⟨sX, hX⟩ := HS.out.1.kb k17 (by have := HS.out.2.1; have := HA.out.2.2.1; omega) (by simpa using fun h => HS.out.2.2.2.2.2.2.2.2.2 h.symm)
      have q7 : w7.cell? ⟨b, 2, none⟩ = some (.slice (some ⟨D, 0, none⟩) k 64) := BB7.cell 2
      have a7 : w7.cell? ⟨w.heap.size, 0, none⟩ = some (.string ⟨#[]⟩) := A7.cell 0
      have fa7 := A7.frozen 0
      clear hK7 h7 k16 BB6 A6 HF haX hKK
      subst he
      go_wp2_with fail
      refine wp_region_noPanic ?_
      go_region_with (fail)
      all_goals refine NoPanic.normal ?_
      all_goals go_wp2_with fail
      all_goals refine bodyPost_ret (ret_tmp_cell_tmp rfl rfl (A7.set_ 0 (.string sX)) Tryd.underlying61 (by kernel_rfl)) rfl ?_
      all_goals refine ⟨⟨_, sX, _, rfl, (by unfold CfeT; rw [if_neg HL.out]; exact ⟨_, rfl⟩)⟩, ?_⟩
      all_goals first | exact ((K7.setCell (p := ⟨w.heap.size, 0, none⟩) (.inr (Nat.le_refl _)) _).drewN 1).kp (by simp) | exact (K7.setCell (p := ⟨w.heap.size, 0, none⟩) (.inr (Nat.le_refl _)) _).kp (by simp)
    · have hkn : 64 < k := by omega
      have hpl : (Lib.byteCells (l.take p)).length = p := by rw [Lib.byteCells_length, List.length_take]; have := HQ.out.2.1; have := HN.out.1; omega
      have hsub : (k : Int) - (p : Int) = ((k - p : Nat) : Int) := by omega
      have hbp : Bs w5 D 0 (l.take p) := bs_pre D5
      have hold := run_firstCells_some (P := Tryd.prog) w5.drew.drew i0.size p ⟨D, 0, none⟩ p 64 (Lib.byteCells (l.take p)) (by rw [hpl, hz1, Nat.mul_one]) (bs_src (w := w5.drew.drew) ((hbp.drewN 1).drewN 1))
      have hap := Lib.run_append_grow_zeros (P := Tryd.prog) w5.drew 51 3 51 5 i0 (.int .u8 0) .i64 .i64 Tryd.underlying51 Tryd.underlying3 hi0 hz0 (some ⟨D, 0, none⟩) p 64 (Lib.byteCells (l.take p)) hold (k - p) (by omega) (by omega) (by omega) (by omega) (by rw [hz2]; omega) (growslice_fits (by omega) (by rw [hz2]; omega))
      rw [show p + (k - p) = k by omega] at hap
      obtain ⟨cc, hcc⟩ : ∃ cc, grownCap w5.drew k 64 5 = cc := ⟨_, rfl⟩
      have hkc : k ≤ cc := by rw [← hcc]; exact grownCap_ge _ _ _ _
      rw [hcc] at hap
      obtain ⟨zs6, hzs6⟩ : ∃ zs6, (Builtin.zeroCells (Value.int .u8 0).cells (k - p) ++ Builtin.zeroCells (Value.int .u8 0).cells (cc - k)).toList = zs6 := ⟨_, rfl⟩
      have hz6 : k - p ≤ zs6.length := by rw [← hzs6]; simp [size_zeroCells, Value.cells]
      have hca : (Lib.byteCells (l.take p)).toArray ++ Builtin.zeroCells (Value.int .u8 0).cells (k - p) ++ Builtin.zeroCells (Value.int .u8 0).cells (cc - k) = (Lib.byteCells (l.take p) ++ zs6).toArray := by rw [← hzs6]; apply Array.ext'; simp
      rw [hca] at hap
      obtain ⟨E, hEE⟩ : ∃ E, w5.heap.size = E := ⟨_, rfl⟩
      obtain ⟨V5, hV5⟩ : ∃ V5, w5.drew.drew.alloc (.cells (Lib.byteCells (l.take p) ++ zs6).toArray 5) = V5 := ⟨_, rfl⟩
      rw [hV5] at hap
      have hbV : Below w5.heap.size w5 V5 := by rw [← hV5]; exact Old.alloc (RowKit.Below.drew (RowKit.Below.drew (Below.refl _ _))) _
      have D6 : Blk V5 E 5 (Lib.byteCells (l.take p) ++ zs6).toArray := by rw [← hV5, ← hEE]; exact Blk.new w5.drew.drew _ _
      have hbE : b < E := by rw [← hEE]; exact BB5.lt
      have BB5' := BB5.old hbV
      have q6 : V5.cell? ⟨b, 2, none⟩ = some (.slice (some ⟨D, 0, none⟩) p 64) := BB5'.cell 2
      have f6 := BB5'.frozen 2
      have hap' : (Builtin.append_ #[51, 3] 51 #[.slice (some ⟨D, 0, none⟩) p 64, .int .i64 ((k - p : Nat) : Int)]).run Tryd.prog w5.drew = .ok (.slice (some ⟨E, 0, none⟩) k cc) V5 := by rw [← hEE]; exact hap
      have HAP := Lib.hid hap'
      have HZZ := Lib.hid hz6
      clear hap hap' hold hca hzs6 hV5 hcc hpl hbp hz6
      have hwsub : IntKind.i64.wrap ((k - p : Nat) : Int) = ((k - p : Nat) : Int) := by rw [IntKind.wrap_i64]; omega
      go_wp2_with fail
      go_region_law (refine step_append_run rfl (.tmp 201) (.tmp 208) 51 3 rfl (.slice (some ⟨D, 0, none⟩) p 64) (.int .i64 ((k - p : Nat) : Int)) (by simp [Act.eval, Act.put]) (by simp [Act.eval, Act.put]) _ _ HAP.out ?_)
      all_goals
        go_wp2_with fail
        have BB6 := BB5'.set_ 2 (.slice (some ⟨E, 0, none⟩) k cc)
        have R6 : Rdr (V5.setCell ⟨b, 2, none⟩ (.slice (some ⟨E, 0, none⟩) k cc)) r g o n c p := by obtain ⟨q, R5⟩ := R5; exact ⟨q, (R5.old hbV).far (p := ⟨b, 2, none⟩) HA.out.2.2.2.2.1 _⟩
        replace D6 := D6.far (p := ⟨b, 2, none⟩) (by show E ≠ b; omega) (.slice (some ⟨E, 0, none⟩) k cc)
        have c6 := (c5.old hbV).far (p := ⟨b, 2, none⟩) HA.out.2.2.2.2.2.2.2.2.1 (.slice (some ⟨E, 0, none⟩) k cc)
        have A6 := ((A1.kb k15 (by have := HA.out.2.2.1; omega) (by simpa using HA.out.2.2.2.1.1)).old hbV).far (p := ⟨b, 2, none⟩) HA.out.2.2.2.1.2 (.slice (some ⟨E, 0, none⟩) k cc)
        have k16 : Kb D [r] w1 (V5.setCell ⟨b, 2, none⟩ (.slice (some ⟨E, 0, none⟩) k cc)) := (k15.trans (Kb.of_below (hbV.mono (Nat.le_trans HA.out.2.1 k15.size)) [r])).setCell (p := ⟨b, 2, none⟩) (.inr (by show D ≤ b; have := HA.out.2.2.1; omega)) _
        have hz6 := HZZ.out
        have hgE : g < E := by rw [← hEE]; exact Nat.lt_of_lt_of_le (by have := HA.out.2.2.1; omega) (Nat.le_trans HA.out.2.1 k15.size)
        have hrE : r < E := by rw [← hEE]; obtain ⟨q, R5⟩ := R5; exact R5.lt
        have hE6 : E ≠ r ∧ g ≠ E ∧ E ≠ b ∧ D ≤ E ∧ k ≤ cc := ⟨by omega, by omega, by omega, by rw [← hEE]; exact Nat.le_trans HA.out.2.1 k15.size, hkc⟩
        clear q5 f5 BB5 R5 D5 c5 k15 BB5' q6 f6 hbV HAP HZZ hsub hwsub hEE hgE hrE hbE
        generalize V5.setCell ⟨b, 2, none⟩ (.slice (some ⟨E, 0, none⟩) k cc) = w6 at *
        have hrf := readFull_any r g o n c p E p (k - p) (cc - p) l (Lib.byteCells (l.take p)) zs6 5 aE aU w6 R6 c6 HN.out.1 (by have := HQ.out.2.1; omega) HN.out.2.1 (by have := HN.out.2.2; omega) D6 (by rw [Lib.byteCells_length, List.length_take]; have := HQ.out.2.1; have := HN.out.1; omega) hz6 (by omega) (by omega) hE6.1 hE6.2.1 HA.out.2.2.2.2.2.2.2.1
          (HE.out.1.kb k16 (HA.out.2.2.1 ▸ NN.out.1.1) NN.out.1.2) (HE.out.2.1.kb k16 (HA.out.2.2.1 ▸ NN.out.2.1.1) NN.out.2.1.2) ⟨by have := NN.out.1.2; simpa using this, by have := NN.out.1.1; have := HA.out.2.2.1; omega⟩ ⟨by have := NN.out.2.1.2; simpa using this, by have := NN.out.2.1.1; have := HA.out.2.2.1; omega⟩
        have HF := Lib.hid hrf
        clear hrf R6 c6 D6
        refine HF.out.mono ?_
        rintro e w7 ⟨hK7, _, h7⟩
        have he := h7 (by have := HQ.out.2.2.1; have := HK.out; omega)
        obtain ⟨aX, haX⟩ : ∃ aX, (if p = n then aE else aU) = aX := ⟨_, rfl⟩
        obtain ⟨K, hKK⟩ : ∃ K, n - p = K := ⟨_, rfl⟩
        rw [haX, hKK] at he
        have hKn : K ≤ 1000000 := by have := HN.out.1; have := HN.out.2.2; omega
        have k17 : Kb D [r] w1 w7 := k16.trans (hK7 D [r] (.inl (by simp)) (.inr hE6.2.2.2.1))
        have BB7 := BB6.kb (hK7 (b + 1) [r, E] (.inl (by simp)) (.inl (by simp))) (Nat.lt_succ_self _) (by simp; exact ⟨fun h => HA.out.2.2.2.2.1 h.symm, fun h => hE6.2.2.1 h.symm⟩)
        have A7 := A6.kb (hK7 (w.heap.size + 1) [r, E] (.inl (by simp)) (.inl (by simp))) (Nat.lt_succ_self _) (by simp; exact ⟨HA.out.2.2.2.1.1, by have := HA.out.2.2.1; have := hE6.2.2.2.1; omega⟩)
        have K7 : Kb w.heap.size [r] w w7 := K1.trans (k17.mono (by have := HA.out.2.2.1; omega))
        obtain ⟨sX, hX⟩ := HS.out.1.kb k17 (by have := HS.out.2.1; have := HA.out.2.2.1; omega) (by simpa using fun h => HS.out.2.2.2.2.2.2.2.2.2 h.symm)
        have q7 : w7.cell? ⟨b, 2, none⟩ = some (.slice (some ⟨E, 0, none⟩) k cc) := BB7.cell 2
        have a7 : w7.cell? ⟨w.heap.size, 0, none⟩ = some (.string ⟨#[]⟩) := A7.cell 0
        have fa7 := A7.frozen 0
        clear hK7 h7 k16 BB6 A6 HF haX hKK
        subst he
        go_wp2_with fail
        refine wp_region_noPanic ?_
        go_region_with (fail)
        all_goals refine NoPanic.normal ?_
        all_goals go_wp2_with fail
        all_goals refine bodyPost_ret (ret_tmp_cell_tmp rfl rfl (A7.set_ 0 (.string sX)) Tryd.underlying61 (by kernel_rfl)) rfl ?_
        all_goals refine ⟨⟨_, sX, _, rfl, (by unfold CfeT; rw [if_neg HL.out]; exact ⟨_, rfl⟩)⟩, ?_⟩
        all_goals first | exact ((K7.setCell (p := ⟨w.heap.size, 0, none⟩) (.inr (Nat.le_refl _)) _).drewN 1).kp (by simp) | exact (K7.setCell (p := ⟨w.heap.size, 0, none⟩) (.inr (Nat.le_refl _)) _).kp (by simp)
end Go.Proofs.YtgkhofnedhlgdaaDoor
