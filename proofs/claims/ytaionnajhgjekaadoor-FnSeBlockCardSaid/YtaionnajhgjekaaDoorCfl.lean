/-
  The walk of cid.CidFromReader over a limited reader of bytes that are an identifier's. Conditions: as each contract says.
-/
import Derived.Test.YtaionnajhgjekaaDoorLbb
import Derived.Test.YtaionnajhgjekaaDoorCdF
import Derived.Lib.AppendZerosOnto
import Derived.Deep.RegionLaw
namespace Go.Proofs.YtaionnajhgjekaaDoor
open Go.RowKit

theorem Er.kb' {B : Nat} {L : List Nat} {x y : World} {g : Nat} (h : Er x g) (k : Kb B L x y) (hB : g < B) (hg : g ∉ L) : Er y g := by
  obtain ⟨t, p, h⟩ := h
  exact ⟨t, p, (k.cell (p := ⟨g, 0, none⟩) hB hg).trans h⟩

theorem bs_pre' {w : World} {g : Nat} {t : TypeId} {l : List UInt8} {zs : List Value} (h : Blk w g t (Lib.byteCells l ++ zs).toArray) : Bs w g 0 l := by
  intro j hj
  rw [Nat.zero_add, h.cell]
  simp only [List.getElem?_toArray]
  rw [List.getElem?_append_left (by rw [Lib.byteCells_length]; exact hj)]
  simp [Lib.byteCells, hj]

/-- The limited reader's bytes: the list l lies behind number q of L, and no limit ahead of its end. -/
structure LrH (N c M q : Nat) (L l more : List UInt8) : Prop where
  hN : N = L.length
  hNc : N ≤ c
  hNl : L.length ≤ 2147483647
  hL : L.drop q = l ++ more
  hM : q + l.length ≤ M
  hMb : M ≤ 4611686018427387904

/-- An append whose run is known, as a step of a region that draws its order. -/
theorem step_append_runL {P : Program} {ops : Array Oper} {o : Oper} {a : Act} {w : World} {K : Act → World → Prop} {Q : Exit → Act → World → Prop} {E : Prop} (hgd : o.guard = none) (s x : Operand) (t tn : TypeId)
    (ho : o.op = .call { callee := .builtin .append, args := #[s, x], argTypes := #[t, tn] }) (vs vx : Value) (hs : a.eval s = vs) (hx : a.eval x = vx) (v' : Value) (w' : World) (hr : (Builtin.append_ #[t, tn] o.type #[vs, vx]).run P w = .ok v' w') (hK : K (a.put o.dst v') w') :
    if Region.wanted o (yielded ops a.tmps) = true then Oper.wp P o a w K Q else E := by
  have hw : Region.wanted o (yielded ops a.tmps) = true := by simp [Region.wanted, hgd]
  rw [if_pos hw]
  exact Go.Lib.wp_append_run w s x t tn ho vs vx hs hx v' w' hr hK

/-- What reading a number from the buffered reader comes to, of bytes that have one there. -/
theorem lbUvarint_ok (b t r d g o N c M q i B : Nat) (Ls : List Nat) (L l more : List UInt8) (aE aU aO aM : Addr) (x s : Nat) (W : World) (h : Lbr b t r d g o N c M q L l i W) (hu : uvRd (l.drop i) 0 0 = .ok x s) (H : LrH N c M q L l more) (hi : i ≤ l.length) (hi54 : i ≤ 54)
    (hD : Ap b t r d g) (hr : r ∈ Ls ∨ B ≤ r) (ht : t ∈ Ls ∨ B ≤ t) (hb : b ∈ Ls ∨ B ≤ b) (hd : d ∈ Ls ∨ B ≤ d) (hB : B ≤ W.heap.size) (hl : l.length ≤ 2147483647)
    (eE : Ee W 0 aE) (eU : Ee W 2 aU) (eO : Ee W 4 aO) (eM : Ee W 5 aM)
    (rE : 0 < B ∧ 0 ∉ Ls) (rU : 2 < B ∧ 2 ∉ Ls) (rO : 4 < B ∧ 4 ∉ Ls) (rM : 5 < B ∧ 5 ∉ Ls) :
    Calls Tryd.prog 54 #[.iface 143 (.pointer (some ⟨b, 0, none⟩))] W fun e w' => e = .returned (.tuple #[.int .u64 x, .nilIface]) ∧ Lbr b t r d g o N c M q L l (i + s) w' ∧ Kb B Ls W w' := by
  refine (readUvarint_genE b B Ls (fun j W => Lbr b t r d g o N c M q L l j W ∧ B ≤ W.heap.size) i l.length l aE aU aO aM W ?_ ?_ (fun j W k h => ⟨h.1.drewN k, h.2⟩) ⟨h, hB⟩ rfl hi (by omega) eE eU eO eM rE rU rO rM).mono ?_
  · intro j hj W1 hij hji ⟨h1, hB1⟩
    refine (lbReadByte_any b t r d g o N c M q j B Ls L l more W1 h1 H.hN H.hNc H.hNl H.hL hj (by omega) H.hM H.hMb hD hr ht hb hd hB1).mono ?_
    rintro e w' ⟨he, hb', hk⟩
    exact ⟨he, ⟨hb', Nat.le_trans hB1 hk.size⟩, hk⟩
  · intro hx
    rw [hu] at hx
    cases hx
  · rw [hu]
    rintro e w' ⟨hk, j, hj, ⟨hb', _⟩, rfl, he⟩
    exact ⟨he, hb', hk⟩

set_option maxRecDepth 100000 in
set_option maxHeartbeats 4000000 in
theorem cidFromReaderL_ok (t r g o N c M q n : Nat) (L l more : List UInt8) (x : CidL) (k : Nat) (aE aU aO aM : Addr) (w : World) (h : Lrq t r g o N c M q w 0) (hc : Bs w g o L) (H : LrH N c M q L l more) (hn : n = l.length) (hl : l.length ≤ 1000000) (hg : g ≠ r) (hrt : r ≠ t) (hgt : g ≠ t) (hglt : g < w.heap.size) (hr : cdRd l = some (x, k)) (hd : x.digest.length ≤ 4096)
    (eE : Ee w 0 aE) (eU : Ee w 2 aU) (eO : Ee w 4 aO) (eM : Ee w 5 aM) (e2 : Er w 7) (e3 : Er w 8)
    (rE : 0 ∉ [r, t]) (rU : 2 ∉ [r, t]) (rO : 4 ∉ [r, t]) (rM : 5 ∉ [r, t]) (r2 : 7 ∉ [r, t]) (r3 : 8 ∉ [r, t]) :
    Calls Tryd.prog 52 #[.iface 140 (.pointer (some ⟨t, 0, none⟩))] w fun e w' => e = .returned (.tuple #[.int .i64 k, .agg #[.string ⟨x.wr.toArray⟩], .nilIface]) ∧ Lrq t r g o N c M q w' k ∧ Kp [r, t] w w' := by
  obtain ⟨i0, hi0, hz0, hz1, hz2⟩ := info_parts info5
  have gE := eE.lt
  have gU := eU.lt
  have gO := eO.lt
  have gM := eM.lt
  have hrl := h.lt.1
  have htl := h.lt.2
  have HN := Lib.hid (And.intro hn (And.intro H hl))
  clear hn H hl
  have hmk : ∀ W : World, (Instr.makeSlice 48 (.int .i64 0) (.int .i64 64)).run Tryd.prog W = .ok (.slice (some ⟨W.heap.size, 0, none⟩) 0 64) (W.alloc (.cells (List.replicate 64 (.int .u8 0)).toArray 5)) := by
    intro W
    have hr := run_make (P := Tryd.prog) W 48 5 i0 (.int .u8 0) Tryd.underlying48 hi0 hz0 .i64 .i64 0 64 (by omega) (by omega) (by rw [hz2]; omega) (by omega)
    have ht0 : madeCells #[Value.int .u8 0] 64 = (List.replicate 64 (Value.int .u8 0)).toArray := by
      rw [← toList_madeCells_one (.int .u8 0) 64]
    rw [← ht0]
    simpa [hz1, Value.cells] using hr
  obtain ⟨zs, hzs⟩ : ∃ zs, List.replicate 64 (Value.int .u8 0) = zs := ⟨_, rfl⟩
  rw [hzs] at hmk
  have hzl : zs.length = 64 := by rw [← hzs]; rfl
  clear hzs
  obtain ⟨V, hV⟩ : ∃ V, (w.alloc (.cells #[.string ⟨#[]⟩] 72)).alloc (.cells zs.toArray 5) = V := ⟨_, rfl⟩
  have bV : Below w.heap.size w V := by rw [← hV]; exact Old.alloc (Old.alloc (Below.refl _ _) _) _
  have AV : Blk V w.heap.size 72 #[.string ⟨#[]⟩] := by rw [← hV]; exact (Blk.new _ _ _).alloc _
  have DV : Blk V (w.heap.size + 1) 5 zs.toArray := by
    rw [← hV]
    have := Blk.new (w.alloc (.cells #[.string ⟨#[]⟩] 72)) 5 zs.toArray
    simpa using this
  go_enter Tryd.func52, Tryd.ntmps52
  go_wp2_with fail
  clear hV hmk
  have zV := DV.lt
  refine (toBufL_any t (w.heap.size + 1) 64 V).mono ?_
  rintro e w1 ⟨b, rfl, hVb, BB, b1⟩
  have b01 := Old.trans bV b1
  have A1 := AV.old b1
  have D1 := DV.old b1
  have R1 := h.old b01
  have c1 := hc.old b01
  have hbb : Lbr b t r (w.heap.size + 1) g o N c M q L l 0 w1 := ⟨R1, BB, ⟨zs, hzl, by simpa [Lib.byteCells] using D1⟩, c1⟩
  have hD : Ap b t r (w.heap.size + 1) g := ⟨by omega, by omega, hrt, by omega, by omega, by omega, hg, by omega, by omega, hgt⟩
  have rr : r ∈ [r, t] ∨ w.heap.size + 1 ≤ r := .inl (by simp)
  have rt : t ∈ [r, t] ∨ w.heap.size + 1 ≤ t := .inl (by simp)
  have rb : b ∈ [r, t] ∨ w.heap.size + 1 ≤ b := .inr (by omega)
  have rd : w.heap.size + 1 ∈ [r, t] ∨ w.heap.size + 1 ≤ w.heap.size + 1 := .inr (by omega)
  have K1 : Kb w.heap.size [r, t] w w1 := Kb.of_below b01 [r, t]
  have hA : w.heap.size ≠ r ∧ w.heap.size ≠ b ∧ w.heap.size ≠ t := by omega
  have HR := Lib.hid (And.intro rr (And.intro rb (And.intro rd (And.intro hD (And.intro hA (And.intro hr (And.intro hd (And.intro hbb rt))))))))
  clear hD rr rb rd rt hA hr hd h hc bV DV D1 BB b1 R1 c1 AV hzl hbb
  have gE2 : Er w1 7 := e2.old b01
  have gE3 : Er w1 8 := e3.old b01
  have g2l : 7 < w.heap.size := by obtain ⟨t, p, h⟩ := e2; exact World.block_lt_of_cell? w _ h
  have g3l : 8 < w.heap.size := by obtain ⟨t, p, h⟩ := e3; exact World.block_lt_of_cell? w _ h
  have nE : 0 < w.heap.size + 1 ∧ 0 ∉ [r, t] := ⟨by omega, rE⟩
  have nU : 2 < w.heap.size + 1 ∧ 2 ∉ [r, t] := ⟨by omega, rU⟩
  have nO : 4 < w.heap.size + 1 ∧ 4 ∉ [r, t] := ⟨by omega, rO⟩
  have nM : 5 < w.heap.size + 1 ∧ 5 ∉ [r, t] := ⟨by omega, rM⟩
  have n2 : 7 < w.heap.size + 1 ∧ 7 ∉ [r, t] := ⟨by omega, r2⟩
  have n3 : 8 < w.heap.size + 1 ∧ 8 ∉ [r, t] := ⟨by omega, r3⟩
  have NN := Lib.hid (And.intro nE (And.intro nU (And.intro nO (And.intro nM (And.intro n2 n3)))))
  have eE1 := eE.old b01
  have eU1 := eU.old b01
  have eO1 := eO.old b01
  have eM1 := eM.old b01
  have s1 := b01.size
  have s1' : w.heap.size + 1 ≤ w1.heap.size := by have := A1.lt; omega
  clear nE nU nO nM n2 n3 eE eU eO eM e2 e3 rE rU rO rM r2 r3 gE gU gO gM g2l g3l
  have HE := Lib.hid (And.intro eE1 (And.intro eU1 (And.intro eO1 (And.intro eM1 (And.intro gE2 gE3)))))
  clear eE1 eU1 eO1 eM1 gE2 gE3
  obtain ⟨D, hDd⟩ : ∃ D, w.heap.size + 1 = D := ⟨_, rfl⟩
  obtain ⟨rr, rb, rd, hD, hA, hr, hd, hbb, rt⟩ := HR.out
  rw [hDd] at rr rb rd hD hbb rt
  have HDd := Lib.hid hDd
  go_wp2_with fail
  by_cases hv : isV0 l = true
  · obtain ⟨rfl, h34, y0, y1, hw, hm⟩ := cdRd_v0 hr hv
    have hu : uvRd (l.drop 0) 0 0 = .ok 18 1 := by
      match l, y0 with
      | a :: l', y0 => simp at y0; subst y0; simp [uvRd]
    have hb1 := lbUvarint_ok b t r D g o N c M q 0 D [r, t] L l more aE aU aO aM 18 1 w1 hbb hu HN.out.2.1 (Nat.zero_le _) (by omega) hD rr rt rb rd (by rw [← hDd]; exact s1') (by have := HN.out.2.2; omega) HE.out.1 HE.out.2.1 HE.out.2.2.1 HE.out.2.2.2.1
      (hDd ▸ NN.out.1) (hDd ▸ NN.out.2.1) (hDd ▸ NN.out.2.2.1) (hDd ▸ NN.out.2.2.2.1)
    have H1 := Lib.hid hb1
    have HV := Lib.hid (And.intro hw hm)
    clear hb1 hu y0 y1 hw hm hr hv hbb hD rr rb rd rt hA hd
    refine H1.out.mono ?_
    rintro e w2 ⟨rfl, B2, k2⟩
    rw [Nat.zero_add] at B2
    obtain ⟨R2, BB2, ⟨zs2, hz2l, D2⟩, c2⟩ := B2
    have q2 : w2.cell? ⟨b, 2, none⟩ = some (.slice (some ⟨D, 0, none⟩) 1 64) := BB2.cell 2
    have hDe := HDd.out
    have hA0 := HR.out.2.2.2.2.1
    have hDD := HR.out.2.2.2.1
    rw [hDe] at hDD
    have hf := readFullL_ok t r g o N c M q 1 D 1 33 63 L l more (Lib.byteCells (l.take 1)) zs2 5 w2 R2 c2 HN.out.2.1.hN HN.out.2.1.hNc HN.out.2.1.hNl HN.out.2.1.hL (by omega) HN.out.2.1.hM HN.out.2.1.hMb D2 (by rw [Lib.byteCells_length, List.length_take]; omega) (by omega) (by omega) (by omega) ⟨fun h => hDD.rd h.symm, hDD.gd, hDD.gr, fun h => hDD.rt h.symm, fun h => hDD.dt h.symm⟩
    have HF := Lib.hid hf
    clear hf R2 c2 D2 H1
    go_wp2_with fail
    refine HF.out.mono ?_
    rintro e w3 ⟨rfl, R3, D3, hK3⟩
    have k3 : Kb D [r, t] w1 w3 := k2.trans (hK3 D [r, t] (.inl (by simp)) (.inl (by simp)) (.inr (Nat.le_refl _)))
    have BB3 := BB2.kb' (hK3 (b + 1) [r, t, D] (.inl (by simp)) (.inl (by simp)) (.inl (by simp))) (Nat.lt_succ_self _) (by simpa using ⟨fun h => hDD.rb h.symm, hDD.bt, hDD.bd⟩)
    have A3 := A1.kb' k3 (by omega) (by simpa using ⟨hA0.1, hA0.2.2⟩)
    have hbs3 : Bs w3 D 0 (l.take 34) := by
      have hta : l.take 34 = l.take 1 ++ (l.drop 1).take 33 := List.take_add (i := 1) (j := 33)
      rw [hta]
      rw [← Lib.byteCells_append] at D3
      exact bs_pre' D3
    have q3 : w3.cell? ⟨b, 2, none⟩ = some (.slice (some ⟨D, 0, none⟩) 1 64) := BB3.cell 2
    have f3 := BB3.frozen 2
    have R3' : Lrq t r g o N c M q w3 34 := R3
    have z3 := BB3.lt
    have hbs4 := hbs3.far (p := ⟨b, 2, none⟩) (fun h => hDD.bd h.symm) (.slice (some ⟨D, 0, none⟩) 34 64)
    have BB4 := BB3.set_ 2 (.slice (some ⟨D, 0, none⟩) 34 64)
    have A4 := A3.far (p := ⟨b, 2, none⟩) hA0.2.1 (.slice (some ⟨D, 0, none⟩) 34 64)
    have R4 := R3'.far (p := ⟨b, 2, none⟩) hDD.rb (fun h => hDD.bt h.symm) (.slice (some ⟨D, 0, none⟩) 34 64)
    have k4 : Kb D [r, t] w1 (w3.setCell ⟨b, 2, none⟩ (.slice (some ⟨D, 0, none⟩) 34 64)) := k3.setCell (p := ⟨b, 2, none⟩) (.inr (by show D ≤ b; omega)) _
    have hmc := mhCast_any D 0 34 64 (l.take 34) x.digest 18 (w3.setCell ⟨b, 2, none⟩ (.slice (some ⟨D, 0, none⟩) 34 64)) (by rw [List.length_take]; omega) (by rw [List.length_take]; omega) (by rw [List.length_take]; omega) hbs4 (by have := BB4.lt; omega) (by rw [List.length_take, Nat.min_eq_left h34]; exact HV.out.2)
      (HE.out.2.2.1.kb k4 (hDe ▸ NN.out.2.2.1.1) NN.out.2.2.1.2).er (HE.out.2.2.2.1.kb k4 (hDe ▸ NN.out.2.2.2.1.1) NN.out.2.2.2.1.2).er (HE.out.2.2.2.2.1.kb' k4 (hDe ▸ NN.out.2.2.2.2.1.1) NN.out.2.2.2.2.1.2) (HE.out.2.2.2.2.2.kb' k4 (hDe ▸ NN.out.2.2.2.2.2.1) NN.out.2.2.2.2.2.2)
    have HM := Lib.hid hmc
    have HD3 := Lib.hid (And.intro hDe (And.intro hA0 hDD))
    clear hmc BB3 A3 R3' k3 hbs3 hDe hA0 hDD
    go_wp2_with fail
    clear q3 f3
    generalize w3.setCell ⟨b, 2, none⟩ (.slice (some ⟨D, 0, none⟩) 34 64) = w4 at *
    refine HM.out.mono ?_
    rintro e w5 ⟨rfl, b5⟩
    have BB5 := BB4.old b5
    have A5 := A4.old b5
    have R5 := R4.old b5
    have k5 : Kb D [r, t] w1 w5 := k4.trans (Kb.of_below (b5.mono (by have := BB4.lt; have := HD3.out.1; omega)) [r, t])
    have q5 : w5.cell? ⟨b, 2, none⟩ = some (.slice (some ⟨D, 0, none⟩) 34 64) := BB5.cell 2
    have a5 : w5.cell? ⟨w.heap.size, 0, none⟩ = some (.string ⟨#[]⟩) := A5.cell 0
    have fa := A5.frozen 0
    have hcv : (convert 104 9 (.slice (some ⟨D, 0, none⟩) 34 64)).run Tryd.prog w5.drew = .ok (.string ⟨(l.take 34).toArray⟩) w5.drew := conv_str (P := Tryd.prog) Tryd.underlying104 Tryd.underlying5 Tryd.underlying9 (n := 34) (c := 64) ((hbs4.old b5).drewN 1) (by rw [List.length_take]; omega)
    clear HM BB4 A4 R4 k4 hbs4 b5
    go_wp2_with fail
    refine wp_region_noPanic ?_
    go_region_with (fail)
    all_goals refine NoPanic.normal ?_
    all_goals go_wp2_with fail
    all_goals rw [HV.out.1]
    all_goals refine bodyPost_ret (ret_tmp_cell_tmp rfl rfl (A5.set_ 0 (.string ⟨(l.take 34).toArray⟩)) Tryd.underlying72 (by kernel_rfl)) rfl ?_
    all_goals refine ⟨rfl, ?_, (((K1.trans (k5.mono' (by have := HD3.out.1; omega))).setCell (p := ⟨w.heap.size, 0, none⟩) (.inr (Nat.le_refl _)) _).drewN 1).kp (by simp)⟩
    all_goals exact (R5.far (p := ⟨w.heap.size, 0, none⟩) (fun h => HD3.out.2.1.1 h.symm) (fun h => HD3.out.2.1.2.2 h.symm) _).drewN 1
  · obtain ⟨m, j, y0, h3, r1, r2, r3, hk, hkl, hw, hml⟩ := cdRd_v1 hr (by simpa using hv)
    obtain ⟨m3, m4, r3a, r3b, _, hj, hjl, _⟩ := mhRd_some r3
    obtain ⟨_, u1b, u1c, _⟩ := uvRd_ok0 r2
    obtain ⟨_, u2b, u2c, _⟩ := uvRd_ok0 r3a
    obtain ⟨_, u3b, u3c, _⟩ := uvRd_ok0 r3b
    rw [List.drop_drop] at r3b
    simp only [List.length_drop] at u1b u2b u3b hjl
    have ln := HN.out.1
    have hu0 : uvRd (l.drop 0) 0 0 = .ok 1 1 := by rw [List.drop_zero]; exact r1
    have HU := Lib.hid (fun (i y s : Nat) (W : World) (h : Lbr b t r D g o N c M q L l i W) (hu : uvRd (l.drop i) 0 0 = .ok y s) (hi : i ≤ n) (hi54 : i ≤ 54) (k : Kb D [r, t] w1 W) (hDs : D ≤ W.heap.size) =>
      lbUvarint_ok b t r D g o N c M q i D [r, t] L l more aE aU aO aM y s W h hu HN.out.2.1 (by have := HN.out.1; omega) hi54 hD rr rt rb rd hDs (by have := HN.out.2.2; omega)
        (HE.out.1.kb k (hDd ▸ NN.out.1.1) NN.out.1.2) (HE.out.2.1.kb k (hDd ▸ NN.out.2.1.1) NN.out.2.1.2) (HE.out.2.2.1.kb k (hDd ▸ NN.out.2.2.1.1) NN.out.2.2.1.2) (HE.out.2.2.2.1.kb k (hDd ▸ NN.out.2.2.2.1.1) NN.out.2.2.2.1.2)
        (hDd ▸ NN.out.1) (hDd ▸ NN.out.2.1) (hDd ▸ NN.out.2.2.1) (hDd ▸ NN.out.2.2.2.1))
    have HP := Lib.hid (And.intro hu0 (And.intro r2 (And.intro r3a (And.intro r3b (And.intro r3 (And.intro hw (And.intro hk hj)))))))
    have hs1 : D ≤ w1.heap.size := by rw [← hDd]; exact s1'
    have HA := Lib.hid (And.intro hbb (And.intro hs1 (And.intro hDd (And.intro hA hD))))
    clear hu0 r1 r2 r3 r3a r3b hw hj hk y0 hr hv rr rb rd rt hD hA hs1 hbb
    have hx4 : (x.digest.length : Int) ≤ 4096 := by omega
    refine (HU.out 0 1 1 w1 HA.out.1 HP.out.1 (Nat.zero_le _) (by omega) Kb.refl HA.out.2.1).mono ?_
    rintro e w2 ⟨rfl, B2, k2⟩
    rw [Nat.zero_add] at B2
    go_wp2_with fail
    refine (HU.out 1 x.codec m w2 B2 HP.out.2.1 (by omega) (by omega) k2 (Nat.le_trans HA.out.2.1 k2.size)).mono ?_
    rintro e w3 ⟨rfl, B3, k3⟩
    have k13 := k2.trans k3
    have q3 : w3.cell? ⟨b, 2, none⟩ = some (.slice (some ⟨D, 0, none⟩) (1 + m) 64) := B3.2.1.cell 2
    clear B2 k2 k3
    go_wp2_with fail
    refine (HU.out (1 + m) x.code m3 w3 B3 HP.out.2.2.1 (by omega) (by omega) k13 (Nat.le_trans HA.out.2.1 k13.size)).mono ?_
    rintro e w4 ⟨rfl, B4, k4⟩
    have k14 := k13.trans k4
    clear B3 k13 k4 q3
    go_wp2_with fail
    refine (HU.out (1 + m + m3) x.digest.length m4 w4 B4 HP.out.2.2.2.1 (by omega) (by omega) k14 (Nat.le_trans HA.out.2.1 k14.size)).mono ?_
    rintro e w5 ⟨rfl, B5, k5⟩
    have k15 := k14.trans k5
    clear B4 k14 k5
    obtain ⟨p, hp⟩ : ∃ p, 1 + m + m3 + m4 = p := ⟨_, rfl⟩
    rw [hp] at B5
    have hkp : p + x.digest.length = k := by have := HP.out.2.2.2.2.2.2; omega
    obtain ⟨dl, hdl⟩ : ∃ dl : Int, (x.digest.length : Int) = dl := ⟨_, rfl⟩
    have hpk : (p : Int) + dl = (k : Int) := by omega
    have hp64 : p ≤ 28 := by omega
    have hk8 : k ≤ 4124 := by omega
    have hwd : IntKind.i64.wrap dl = dl := by rw [IntKind.wrap_i64]; omega
    have hwk : IntKind.i64.wrap (k : Int) = (k : Int) := by rw [IntKind.wrap_i64]; omega
    have hbig : decide (33554432 < dl) = false := by simp; omega
    rw [hdl]
    have HDL := Lib.hid hdl
    clear hx4 hdl
    obtain ⟨R5, BB5, ⟨zs5, hz5, D5⟩, c5⟩ := B5
    have q5 : w5.cell? ⟨b, 2, none⟩ = some (.slice (some ⟨D, 0, none⟩) p 64) := BB5.cell 2
    have f5 := BB5.frozen 2
    have HK := Lib.hid (And.intro hp hkp)
    have HQ := Lib.hid (And.intro hkl (And.intro hml (And.intro ln (And.intro u1c (And.intro u2c u3c)))))
    clear hp hkp HU u1b u1c u2b u2c u3b u3c hjl ln h3 hkl hml
    by_cases hfit : k ≤ 64
    · have hpk' : p ≤ k := by have := HK.out.2; omega
      go_wp2_with fail
      have BB6 := BB5.set_ 2 (.slice (some ⟨D, 0, none⟩) k 64)
      have R6 := R5.far (p := ⟨b, 2, none⟩) HA.out.2.2.2.2.rb (fun h => HA.out.2.2.2.2.bt h.symm) (.slice (some ⟨D, 0, none⟩) k 64)
      have D6 := D5.far (p := ⟨b, 2, none⟩) (fun h => HA.out.2.2.2.2.bd h.symm) (.slice (some ⟨D, 0, none⟩) k 64)
      have c6 := c5.far (p := ⟨b, 2, none⟩) HA.out.2.2.2.2.gb (.slice (some ⟨D, 0, none⟩) k 64)
      have A6 := (A1.kb' k15 (by have := HA.out.2.2.1; omega) (by simpa using ⟨HA.out.2.2.2.1.1, HA.out.2.2.2.1.2.2⟩)).far (p := ⟨b, 2, none⟩) HA.out.2.2.2.1.2.1 (.slice (some ⟨D, 0, none⟩) k 64)
      have k16 : Kb D [r, t] w1 (w5.setCell ⟨b, 2, none⟩ (.slice (some ⟨D, 0, none⟩) k 64)) := k15.setCell (p := ⟨b, 2, none⟩) (.inr (by show D ≤ b; have := HA.out.2.2.1; omega)) _
      clear q5 f5 BB5 R5 D5 c5 k15
      generalize w5.setCell ⟨b, 2, none⟩ (.slice (some ⟨D, 0, none⟩) k 64) = w6 at *
      have hz6 : k - p ≤ zs5.length := by omega
      have hE6 : D ≠ r ∧ g ≠ D ∧ D ≠ b ∧ D ≤ D ∧ k ≤ 64 ∧ t ≠ D := ⟨fun h => HA.out.2.2.2.2.rd h.symm, HA.out.2.2.2.2.gd, fun h => HA.out.2.2.2.2.bd h.symm, Nat.le_refl _, hfit, fun h => HA.out.2.2.2.2.dt h.symm⟩
      have hrf := readFullL_ok t r g o N c M q p D p (k - p) (64 - p) L l more (Lib.byteCells (l.take p)) zs5 5 w6 R6 c6 HN.out.2.1.hN HN.out.2.1.hNc HN.out.2.1.hNl HN.out.2.1.hL (by have := HQ.out.1; have := HQ.out.2.2.1; omega) HN.out.2.1.hM HN.out.2.1.hMb D6 (by rw [Lib.byteCells_length, List.length_take]; have := HQ.out.1; have := HK.out.2; omega) hz6 (by omega) (by omega) ⟨hE6.1, hE6.2.1, HA.out.2.2.2.2.gr, fun h => HA.out.2.2.2.2.rt h.symm, hE6.2.2.2.2.2⟩
      have HF := Lib.hid hrf
      clear hrf R6 c6 D6
      refine HF.out.mono ?_
      rintro e w7 ⟨rfl, R7, D7, hK7⟩
      have hkp' : p + (k - p) = k := by omega
      rw [hkp'] at R7
      have k17 : Kb D [r, t] w1 w7 := k16.trans (hK7 D [r, t] (.inl (by simp)) (.inl (by simp)) (.inr hE6.2.2.2.1))
      have BB7 := BB6.kb' (hK7 (b + 1) [r, t, D] (.inl (by simp)) (.inl (by simp)) (.inl (by simp))) (Nat.lt_succ_self _) (by simpa using ⟨fun h => HA.out.2.2.2.2.rb h.symm, HA.out.2.2.2.2.bt, fun h => hE6.2.2.1 h.symm⟩)
      have A7 := A6.kb' (hK7 (w.heap.size + 1) [r, t, D] (.inl (by simp)) (.inl (by simp)) (.inl (by simp))) (Nat.lt_succ_self _) (by simpa using ⟨HA.out.2.2.2.1.1, HA.out.2.2.2.1.2.2, by have := HA.out.2.2.1; have := hE6.2.2.2.1; omega⟩)
      have hbs7 : Bs w7 D 0 (l.take k) := by
        have hta : l.take k = l.take p ++ (l.drop p).take (k - p) := by rw [← hkp']; rw [hkp']; have := List.take_add (l := l) (i := p) (j := k - p); rw [hkp'] at this; exact this
        rw [hta]
        rw [← Lib.byteCells_append] at D7
        exact bs_pre' D7
      have hEs := D7.lt
      have q7 : w7.cell? ⟨b, 2, none⟩ = some (.slice (some ⟨D, 0, none⟩) k 64) := BB7.cell 2
      clear hK7 D7 k16 BB6 A6 HF
      have hm1 : (1 : Int) + (m : Int) ≤ (k : Int) := by have := HP.out.2.2.2.2.2.2.1; omega
      have hm2 : ¬ 64 = 1 + m := by have := HP.out.2.2.2.2.2.2; omega
      have hm3 : 1 + m ≤ k := by omega
      have hmr : mhRd ((l.take k).drop (1 + m)) = some (x.code, x.digest, j) := by
        rw [List.drop_take, show k - (1 + m) = j by have := HP.out.2.2.2.2.2.2.1; omega]
        exact mhRd_take HP.out.2.2.2.2.1
      have hlk : (l.take k).length = k := by rw [List.length_take]; have := HQ.out.1; omega
      have hbm := bs_from hbs7 (1 + m)
      rw [Nat.zero_add] at hbm
      have hmf := mhFromBytes_any D (1 + m) (k - (1 + m)) (64 - (1 + m)) ((l.take k).drop (1 + m)) w7 (by rw [List.length_drop, hlk]) (by rw [List.length_drop, hlk]; omega) (by rw [List.length_drop, hlk]; omega) hbm
        (HE.out.2.2.1.kb k17 (HA.out.2.2.1 ▸ NN.out.2.2.1.1) NN.out.2.2.1.2).er (HE.out.2.2.2.1.kb k17 (HA.out.2.2.1 ▸ NN.out.2.2.2.1.1) NN.out.2.2.2.1.2).er (HE.out.2.2.2.2.1.kb' k17 (HA.out.2.2.1 ▸ NN.out.2.2.2.2.1.1) NN.out.2.2.2.2.1.2) (HE.out.2.2.2.2.2.kb' k17 (HA.out.2.2.1 ▸ NN.out.2.2.2.2.2.1) NN.out.2.2.2.2.2.2)
      rw [hmr] at hmf
      have HM := Lib.hid hmf
      clear hmf hmr hbm
      go_wp2_with fail
      refine HM.out.mono ?_
      rintro e w8 ⟨b8, rfl⟩
      have k18 : Kb D [r, t] w1 w8 := k17.trans (Kb.of_below (b8.mono (Nat.le_trans HA.out.2.1 k17.size)) [r, t])
      have BB8 := BB7.old b8
      have A8 := A7.old b8
      have R8 := R7.old b8
      have q8 : w8.cell? ⟨b, 2, none⟩ = some (.slice (some ⟨D, 0, none⟩) k 64) := BB8.cell 2
      have a8 : w8.cell? ⟨w.heap.size, 0, none⟩ = some (.string ⟨#[]⟩) := A8.cell 0
      have fa := A8.frozen 0
      have hcv : (convert 48 9 (.slice (some ⟨D, 0, none⟩) k 64)).run Tryd.prog w8.drew = .ok (.string ⟨(l.take k).toArray⟩) w8.drew := conv_str (P := Tryd.prog) Tryd.underlying48 Tryd.underlying5 Tryd.underlying9 (n := k) (c := 64) ((hbs7.old b8).drewN 1) hlk.symm
      clear HM BB7 A7 R7 k17 hbs7 b8 q7 hlk hm1 hm2 hm3
      go_wp2_with fail
      refine wp_region_noPanic ?_
      go_region_with (fail)
      all_goals refine NoPanic.normal ?_
      all_goals go_wp2_with fail
      all_goals rw [HP.out.2.2.2.2.2.1]
      all_goals refine bodyPost_ret (ret_tmp_cell_tmp rfl rfl (A8.set_ 0 (.string ⟨(l.take k).toArray⟩)) Tryd.underlying72 (by kernel_rfl)) rfl ?_
      all_goals refine ⟨rfl, ?_, (((K1.trans (k18.mono' (by have := HA.out.2.2.1; omega))).setCell (p := ⟨w.heap.size, 0, none⟩) (.inr (Nat.le_refl _)) _).drewN 1).kp (by simp)⟩
      all_goals exact (R8.far (p := ⟨w.heap.size, 0, none⟩) (fun h => HA.out.2.2.2.1.1 h.symm) (fun h => HA.out.2.2.2.1.2.2 h.symm) _).drewN 1
    · have hkn : 64 < k := by omega
      have hpk' : p ≤ k := by omega
      have hpl : (Lib.byteCells (l.take p)).length = p := by rw [Lib.byteCells_length, List.length_take]; have := HQ.out.1; omega
      have hsub : (k : Int) - (p : Int) = ((k - p : Nat) : Int) := by omega
      have hbp : Bs w5 D 0 (l.take p) := bs_pre' D5
      have hold := run_firstCells_some (P := Tryd.prog) w5.drew.drew i0.size p ⟨D, 0, none⟩ p 64 (Lib.byteCells (l.take p)) (by rw [hpl, hz1, Nat.mul_one]) (bs_src (w := w5.drew.drew) ((hbp.drewN 1).drewN 1))
      have hap := Lib.run_append_grow_zeros (P := Tryd.prog) w5.drew 48 3 48 5 i0 (.int .u8 0) .i64 .i64 Tryd.underlying48 Tryd.underlying3 hi0 hz0 (some ⟨D, 0, none⟩) p 64 (Lib.byteCells (l.take p)) hold (k - p) (by omega) (by omega) (by omega) (by omega) (by rw [hz2]; omega) (growslice_fits (by omega) (by rw [hz2]; omega))
      rw [show p + (k - p) = k by omega] at hap
      obtain ⟨cc, hcc⟩ : ∃ cc, grownCap w5.drew k 64 5 = cc := ⟨_, rfl⟩
      have hkc : k ≤ cc := by rw [← hcc]; exact grownCap_ge _ _ _ _
      rw [hcc] at hap
      obtain ⟨zs6, hzs6⟩ : ∃ zs6, (Builtin.zeroCells (Value.int .u8 0).cells (k - p) ++ Builtin.zeroCells (Value.int .u8 0).cells (cc - k)).toList = zs6 := ⟨_, rfl⟩
      have hz6 : k - p ≤ zs6.length := by rw [← hzs6]; simp [size_zeroCells, Value.cells]
      have hca : (Lib.byteCells (l.take p)).toArray ++ Builtin.zeroCells (Value.int .u8 0).cells (k - p) ++ Builtin.zeroCells (Value.int .u8 0).cells (cc - k) = (Lib.byteCells (l.take p) ++ zs6).toArray := by rw [← hzs6]; apply Array.ext'; simp
      rw [hca] at hap
      obtain ⟨E, hEE⟩ : ∃ E, w5.heap.size = E := ⟨_, rfl⟩
      obtain ⟨V5, hV5⟩ : ∃ V5, w5.drew.drew.alloc (.cells (Lib.byteCells (l.take p) ++ zs6).toArray 5) = V5 := ⟨_, rfl⟩
      rw [hV5] at hap
      have hbV : Below w5.heap.size w5 V5 := by rw [← hV5]; exact Old.alloc (RowKit.Below.drew (RowKit.Below.drew (Below.refl _ _))) _
      have D6 : Blk V5 E 5 (Lib.byteCells (l.take p) ++ zs6).toArray := by rw [← hV5, ← hEE]; exact Blk.new w5.drew.drew _ _
      have hbE : b < E := by rw [← hEE]; exact BB5.lt
      have BB5' := BB5.old hbV
      have q6 : V5.cell? ⟨b, 2, none⟩ = some (.slice (some ⟨D, 0, none⟩) p 64) := BB5'.cell 2
      have f6 := BB5'.frozen 2
      have hap' : (Builtin.append_ #[48, 3] 48 #[.slice (some ⟨D, 0, none⟩) p 64, .int .i64 ((k - p : Nat) : Int)]).run Tryd.prog w5.drew = .ok (.slice (some ⟨E, 0, none⟩) k cc) V5 := by rw [← hEE]; exact hap
      have HAP := Lib.hid hap'
      have HZZ := Lib.hid hz6
      clear hap hap' hold hca hzs6 hV5 hcc hpl hbp hz6
      have hwsub : IntKind.i64.wrap ((k - p : Nat) : Int) = ((k - p : Nat) : Int) := by rw [IntKind.wrap_i64]; omega
      go_wp2_with fail
      go_region_law (refine step_append_runL rfl (.tmp 201) (.tmp 208) 48 3 rfl (.slice (some ⟨D, 0, none⟩) p 64) (.int .i64 ((k - p : Nat) : Int)) (by simp [Act.eval, Act.put]) (by simp [Act.eval, Act.put]) _ _ HAP.out ?_)
      all_goals
        go_wp2_with fail
        have BB6 := BB5'.set_ 2 (.slice (some ⟨E, 0, none⟩) k cc)
        have R6 := (R5.old hbV).far (p := ⟨b, 2, none⟩) HA.out.2.2.2.2.rb (fun h => HA.out.2.2.2.2.bt h.symm) (.slice (some ⟨E, 0, none⟩) k cc)
        replace D6 := D6.far (p := ⟨b, 2, none⟩) (by show E ≠ b; omega) (.slice (some ⟨E, 0, none⟩) k cc)
        have c6 := (c5.old hbV).far (p := ⟨b, 2, none⟩) HA.out.2.2.2.2.gb (.slice (some ⟨E, 0, none⟩) k cc)
        have A6 := ((A1.kb' k15 (by have := HA.out.2.2.1; omega) (by simpa using ⟨HA.out.2.2.2.1.1, HA.out.2.2.2.1.2.2⟩)).old hbV).far (p := ⟨b, 2, none⟩) HA.out.2.2.2.1.2.1 (.slice (some ⟨E, 0, none⟩) k cc)
        have k16 : Kb D [r, t] w1 (V5.setCell ⟨b, 2, none⟩ (.slice (some ⟨E, 0, none⟩) k cc)) := (k15.trans (Kb.of_below (hbV.mono (Nat.le_trans HA.out.2.1 k15.size)) [r, t])).setCell (p := ⟨b, 2, none⟩) (.inr (by show D ≤ b; have := HA.out.2.2.1; omega)) _
        have hz6 := HZZ.out
        have hgE : g < E := by rw [← hEE]; exact Nat.lt_of_lt_of_le (by have := HA.out.2.2.1; omega) (Nat.le_trans HA.out.2.1 k15.size)
        have hrE : r < E := by rw [← hEE]; exact R5.lt.1
        have htE : t < E := by rw [← hEE]; exact R5.lt.2
        have hE6 : E ≠ r ∧ g ≠ E ∧ E ≠ b ∧ D ≤ E ∧ k ≤ cc ∧ t ≠ E := ⟨by omega, by omega, by omega, by rw [← hEE]; exact Nat.le_trans HA.out.2.1 k15.size, hkc, by omega⟩
        clear q5 f5 BB5 R5 D5 c5 k15 BB5' q6 f6 hbV HAP HZZ hsub hwsub hEE hgE hrE hbE htE
        generalize V5.setCell ⟨b, 2, none⟩ (.slice (some ⟨E, 0, none⟩) k cc) = w6 at *
        have hrf := readFullL_ok t r g o N c M q p E p (k - p) (cc - p) L l more (Lib.byteCells (l.take p)) zs6 5 w6 R6 c6 HN.out.2.1.hN HN.out.2.1.hNc HN.out.2.1.hNl HN.out.2.1.hL (by have := HQ.out.1; have := HQ.out.2.2.1; omega) HN.out.2.1.hM HN.out.2.1.hMb D6 (by rw [Lib.byteCells_length, List.length_take]; have := HQ.out.1; have := HK.out.2; omega) hz6 (by omega) (by omega) ⟨hE6.1, hE6.2.1, HA.out.2.2.2.2.gr, fun h => HA.out.2.2.2.2.rt h.symm, hE6.2.2.2.2.2⟩
        have HF := Lib.hid hrf
        clear hrf R6 c6 D6
        refine HF.out.mono ?_
        rintro e w7 ⟨rfl, R7, D7, hK7⟩
        have hkp' : p + (k - p) = k := by omega
        rw [hkp'] at R7
        have k17 : Kb D [r, t] w1 w7 := k16.trans (hK7 D [r, t] (.inl (by simp)) (.inl (by simp)) (.inr hE6.2.2.2.1))
        have BB7 := BB6.kb' (hK7 (b + 1) [r, t, E] (.inl (by simp)) (.inl (by simp)) (.inl (by simp))) (Nat.lt_succ_self _) (by simpa using ⟨fun h => HA.out.2.2.2.2.rb h.symm, HA.out.2.2.2.2.bt, fun h => hE6.2.2.1 h.symm⟩)
        have A7 := A6.kb' (hK7 (w.heap.size + 1) [r, t, E] (.inl (by simp)) (.inl (by simp)) (.inl (by simp))) (Nat.lt_succ_self _) (by simpa using ⟨HA.out.2.2.2.1.1, HA.out.2.2.2.1.2.2, by have := HA.out.2.2.1; have := hE6.2.2.2.1; omega⟩)
        have hbs7 : Bs w7 E 0 (l.take k) := by
          have hta : l.take k = l.take p ++ (l.drop p).take (k - p) := by rw [← hkp']; rw [hkp']; have := List.take_add (l := l) (i := p) (j := k - p); rw [hkp'] at this; exact this
          rw [hta]
          rw [← Lib.byteCells_append] at D7
          exact bs_pre' D7
        have hEs := D7.lt
        have q7 : w7.cell? ⟨b, 2, none⟩ = some (.slice (some ⟨E, 0, none⟩) k cc) := BB7.cell 2
        clear hK7 D7 k16 BB6 A6 HF
        have hm1 : (1 : Int) + (m : Int) ≤ (k : Int) := by have := HP.out.2.2.2.2.2.2.1; omega
        have hm2 : ¬ cc = 1 + m := by have := HP.out.2.2.2.2.2.2; omega
        have hm3 : 1 + m ≤ k := by omega
        have hmr : mhRd ((l.take k).drop (1 + m)) = some (x.code, x.digest, j) := by
          rw [List.drop_take, show k - (1 + m) = j by have := HP.out.2.2.2.2.2.2.1; omega]
          exact mhRd_take HP.out.2.2.2.2.1
        have hlk : (l.take k).length = k := by rw [List.length_take]; have := HQ.out.1; omega
        have hbm := bs_from hbs7 (1 + m)
        rw [Nat.zero_add] at hbm
        have hmf := mhFromBytes_any E (1 + m) (k - (1 + m)) (cc - (1 + m)) ((l.take k).drop (1 + m)) w7 (by rw [List.length_drop, hlk]) (by rw [List.length_drop, hlk]; omega) (by rw [List.length_drop, hlk]; omega) hbm
          (HE.out.2.2.1.kb k17 (HA.out.2.2.1 ▸ NN.out.2.2.1.1) NN.out.2.2.1.2).er (HE.out.2.2.2.1.kb k17 (HA.out.2.2.1 ▸ NN.out.2.2.2.1.1) NN.out.2.2.2.1.2).er (HE.out.2.2.2.2.1.kb' k17 (HA.out.2.2.1 ▸ NN.out.2.2.2.2.1.1) NN.out.2.2.2.2.1.2) (HE.out.2.2.2.2.2.kb' k17 (HA.out.2.2.1 ▸ NN.out.2.2.2.2.2.1) NN.out.2.2.2.2.2.2)
        rw [hmr] at hmf
        have HM := Lib.hid hmf
        clear hmf hmr hbm
        go_wp2_with fail
        refine HM.out.mono ?_
        rintro e w8 ⟨b8, rfl⟩
        have k18 : Kb D [r, t] w1 w8 := k17.trans (Kb.of_below (b8.mono (Nat.le_trans HA.out.2.1 k17.size)) [r, t])
        have BB8 := BB7.old b8
        have A8 := A7.old b8
        have R8 := R7.old b8
        have q8 : w8.cell? ⟨b, 2, none⟩ = some (.slice (some ⟨E, 0, none⟩) k cc) := BB8.cell 2
        have a8 : w8.cell? ⟨w.heap.size, 0, none⟩ = some (.string ⟨#[]⟩) := A8.cell 0
        have fa := A8.frozen 0
        have hcv : (convert 48 9 (.slice (some ⟨E, 0, none⟩) k cc)).run Tryd.prog w8.drew = .ok (.string ⟨(l.take k).toArray⟩) w8.drew := conv_str (P := Tryd.prog) Tryd.underlying48 Tryd.underlying5 Tryd.underlying9 (n := k) (c := cc) ((hbs7.old b8).drewN 1) hlk.symm
        clear HM BB7 A7 R7 k17 hbs7 b8 q7 hlk hm1 hm2 hm3
        go_wp2_with fail
        refine wp_region_noPanic ?_
        go_region_with (fail)
        all_goals refine NoPanic.normal ?_
        all_goals go_wp2_with fail
        all_goals rw [HP.out.2.2.2.2.2.1]
        all_goals refine bodyPost_ret (ret_tmp_cell_tmp rfl rfl (A8.set_ 0 (.string ⟨(l.take k).toArray⟩)) Tryd.underlying72 (by kernel_rfl)) rfl ?_
        all_goals refine ⟨rfl, ?_, (((K1.trans (k18.mono' (by have := HA.out.2.2.1; omega))).setCell (p := ⟨w.heap.size, 0, none⟩) (.inr (Nat.le_refl _)) _).drewN 1).kp (by simp)⟩
        all_goals exact (R8.far (p := ⟨w.heap.size, 0, none⟩) (fun h => HA.out.2.2.2.1.1 h.symm) (fun h => HA.out.2.2.2.1.2.2 h.symm) _).drewN 1
end Go.Proofs.YtaionnajhgjekaaDoor
