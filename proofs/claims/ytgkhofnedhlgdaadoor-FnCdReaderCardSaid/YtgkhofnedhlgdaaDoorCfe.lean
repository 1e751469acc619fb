/-
  The walk of cid.CidFromReader over a bytes.Reader of bytes that begin with no identifier, where a number is missing or the version is none. Conditions: as each contract says.
-/
import Derived.Test.YtgkhofnedhlgdaaDoorCfd
namespace Go.Proofs.YtgkhofnedhlgdaaDoor
open Go.RowKit

set_option maxRecDepth 100000 in
set_option maxHeartbeats 4000000 in
theorem cidFromReader_bad0 (r g o n c : Nat) (l : List UInt8) (aE aU aO aM : Addr) (w : World) (h : Rdr w r g o n c 0) (hc : Bs w g o l) (hn : n = l.length) (hnc : n ≤ c) (hl : l.length ≤ 1000000) (hg : g ≠ r) (hglt : g < w.heap.size) (hr : cdRd l = none) (hno : ∀ codec m code m3 size m4, uvRd l 0 0 = .ok 1 1 → uvRd (l.drop 1) 0 0 = .ok codec m → uvRd (l.drop (1 + m)) 0 0 = .ok code m3 → uvRd (l.drop (1 + m + m3)) 0 0 = .ok size m4 → False) (eS : Sr w 4) (rS : r ≠ 4)
    (xE : Eh w aE) (xU : Eh w aU) (xO : Eh w aO) (xM : Eh w aM) (yU : aU ≠ aE) (yO : aO ≠ aE) (yM : aM ≠ aE) (zE : aE.block ≠ r) (zU : aU.block ≠ r) (zO : aO.block ≠ r) (zM : aM.block ≠ r)
    (eE : Ee w 0 aE) (eU : Ee w 1 aU) (eO : Ee w 2 aO) (eM : Ee w 3 aM) (e2 : Er w 5) (e3 : Er w 7)
    (rE : r ≠ 0) (rU : r ≠ 1) (rO : r ≠ 2) (rM : r ≠ 3) (r2 : r ≠ 5) (r3 : r ≠ 7) :
    Calls Tryd.prog 39 #[.iface 49 (.pointer (some ⟨r, 0, none⟩))] w fun e w' => (∃ (q : Int) (s : ByteArray) (v : Value), e = .returned (.tuple #[.int .i64 q, .agg #[.string s], v]) ∧ CfeT l aE v) ∧ Kp [r] w w' := by
  obtain ⟨i0, hi0, hz0, hz1, hz2⟩ := info_parts info5
  have gE := eE.lt
  have gU := eU.lt
  have gO := eO.lt
  have gM := eM.lt
  have hrl := h.lt
  have HN := Lib.hid (And.intro hn (And.intro hnc hl))
  clear hn hnc hl
  have HNO := Lib.hid hno
  clear hno
  have hmk : ∀ W : World, (Instr.makeSlice 51 (.int .i64 0) (.int .i64 64)).run Tryd.prog W = .ok (.slice (some ⟨W.heap.size, 0, none⟩) 0 64) (W.alloc (.cells (List.replicate 64 (.int .u8 0)).toArray 5)) := by
    intro W
    have hr := run_make (P := Tryd.prog) W 51 5 i0 (.int .u8 0) Tryd.underlying51 hi0 hz0 .i64 .i64 0 64 (by omega) (by omega) (by rw [hz2]; omega) (by omega)
    have ht0 : madeCells #[Value.int .u8 0] 64 = (List.replicate 64 (Value.int .u8 0)).toArray := by
      rw [← toList_madeCells_one (.int .u8 0) 64]
    rw [← ht0]
    simpa [hz1, Value.cells] using hr
  obtain ⟨zs, hzs⟩ : ∃ zs, List.replicate 64 (Value.int .u8 0) = zs := ⟨_, rfl⟩
  rw [hzs] at hmk
  have hzl : zs.length = 64 := by rw [← hzs]; rfl
  clear hzs
  obtain ⟨V, hV⟩ : ∃ V, (w.alloc (.cells #[.string ⟨#[]⟩] 61)).alloc (.cells zs.toArray 5) = V := ⟨_, rfl⟩
  have bV : Below w.heap.size w V := by rw [← hV]; exact Old.alloc (Old.alloc (Below.refl _ _) _) _
  have AV : Blk V w.heap.size 61 #[.string ⟨#[]⟩] := by rw [← hV]; exact (Blk.new _ _ _).alloc _
  have DV : Blk V (w.heap.size + 1) 5 zs.toArray := by
    rw [← hV]
    have := Blk.new (w.alloc (.cells #[.string ⟨#[]⟩] 61)) 5 zs.toArray
    simpa using this
  go_enter Tryd.func39, Tryd.ntmps39
  go_wp2_with fail
  clear hV hmk
  have zV := DV.lt
  refine (toBuf_any r (w.heap.size + 1) 64 V).mono ?_
  rintro e w1 ⟨b, rfl, hVb, BB, b1⟩
  have b01 := Old.trans bV b1
  have A1 := AV.old b1
  have D1 := DV.old b1
  have R1 := h.old b01
  have c1 := hc.old b01
  have hbb : Bbr b r (w.heap.size + 1) g o n c l 0 w1 := ⟨R1, BB, ⟨zs, hzl, by simpa [Lib.byteCells] using D1⟩, c1⟩
  have hD : r ≠ b ∧ r ≠ w.heap.size + 1 ∧ b ≠ w.heap.size + 1 ∧ g ≠ r ∧ g ≠ b ∧ g ≠ w.heap.size + 1 := by omega
  have rr : r ∈ [r] ∨ w.heap.size + 1 ≤ r := .inl (by simp)
  have rb : b ∈ [r] ∨ w.heap.size + 1 ≤ b := .inr (by omega)
  have rd : w.heap.size + 1 ∈ [r] ∨ w.heap.size + 1 ≤ w.heap.size + 1 := .inr (by omega)
  have K1 : Kb w.heap.size [r] w w1 := Kb.of_below b01 [r]
  have hA : w.heap.size ≠ r ∧ w.heap.size ≠ b := by omega
  have HR := Lib.hid (And.intro rr (And.intro rb (And.intro rd (And.intro hD (And.intro hA (And.intro hr hbb))))))
  clear hD rr rb rd hA hr h hc bV DV D1 BB b1 R1 c1 AV hzl hbb
  have gE2 : Er w1 5 := e2.old b01
  have gE3 : Er w1 7 := e3.old b01
  have g2l : 5 < w.heap.size := by obtain ⟨t, p, h⟩ := e2; exact World.block_lt_of_cell? w _ h
  have g3l : 7 < w.heap.size := by obtain ⟨t, p, h⟩ := e3; exact World.block_lt_of_cell? w _ h
  have nE : 0 < w.heap.size + 1 ∧ 0 ∉ [r] := ⟨by omega, by simpa using fun h => rE h.symm⟩
  have nU : 1 < w.heap.size + 1 ∧ 1 ∉ [r] := ⟨by omega, by simpa using fun h => rU h.symm⟩
  have nO : 2 < w.heap.size + 1 ∧ 2 ∉ [r] := ⟨by omega, by simpa using fun h => rO h.symm⟩
  have nM : 3 < w.heap.size + 1 ∧ 3 ∉ [r] := ⟨by omega, by simpa using fun h => rM h.symm⟩
  have n2 : 5 < w.heap.size + 1 ∧ 5 ∉ [r] := ⟨by omega, by simpa using fun h => r2 h.symm⟩
  have n3 : 7 < w.heap.size + 1 ∧ 7 ∉ [r] := ⟨by omega, by simpa using fun h => r3 h.symm⟩
  have NN := Lib.hid (And.intro nE (And.intro nU (And.intro nO (And.intro nM (And.intro n2 n3)))))
  have eE1 := eE.old b01
  have eU1 := eU.old b01
  have eO1 := eO.old b01
  have eM1 := eM.old b01
  have s1 := b01.size
  have s1' : w.heap.size + 1 ≤ w1.heap.size := by have := A1.lt; omega
  have gS := eS.old b01
  have gSl : 4 < w.heap.size := by obtain ⟨s, h⟩ := eS; exact World.block_lt_of_cell? w _ h
  have HS := Lib.hid (And.intro gS (And.intro gSl (And.intro (And.intro xE zE) (And.intro (And.intro xU zU) (And.intro (And.intro xO zO) (And.intro (And.intro xM zM) (And.intro yU (And.intro yO (And.intro yM rS)))))))))
  clear gS gSl eS xE xU xO xM yU yO yM rS zE zU zO zM
  clear nE nU nO nM n2 n3 eE eU eO eM e2 e3 rE rU rO rM r2 r3 gE gU gO gM g2l g3l
  have HE := Lib.hid (And.intro eE1 (And.intro eU1 (And.intro eO1 (And.intro eM1 (And.intro gE2 gE3)))))
  clear eE1 eU1 eO1 eM1 gE2 gE3
  obtain ⟨D, hDd⟩ : ∃ D, w.heap.size + 1 = D := ⟨_, rfl⟩
  obtain ⟨rr, rb, rd, hD, hA, hr, hbb⟩ := HR.out
  rw [hDd] at rr rb rd hD hbb
  have HDd := Lib.hid hDd
  go_wp2_with fail
  obtain ⟨r1, h1⟩ : ∃ r1, uvRd l 0 0 = r1 := ⟨_, rfl⟩
  have hb1 := bbUvarint_any b r D g o n c 0 D [r] l aE aU aO aM w1 hbb HN.out.1 (Nat.zero_le _) (by omega) (by have := HN.out.2.2; omega) hD rr rb rd (by rw [← hDd]; exact s1') HE.out.1 HE.out.2.1 HE.out.2.2.1 HE.out.2.2.2.1
      (hDd ▸ NN.out.1) (hDd ▸ NN.out.2.1) (hDd ▸ NN.out.2.2.1) (hDd ▸ NN.out.2.2.2.1) (by have := NN.out.1.2; simpa using fun h => this (by simp [h]))
  rw [List.drop_zero, h1] at hb1
  have HB1 := Lib.hid hb1
  have HC := Lib.hid (And.intro hDd (And.intro hA (And.intro hD (And.intro hr h1))))
  clear hb1 hbb hD rr rb rd hA hr h1 hDd
  refine HB1.out.mono ?_
  rintro e w2 ⟨k2, j, hj, hB2, he⟩
  obtain ⟨R2, BB2, ⟨zs2, hz2l, D2⟩, c2⟩ := hB2
  have A2 := A1.kb k2 (by have := HC.out.1; omega) (by simpa using HC.out.2.1.1)
  have q2 : w2.cell? ⟨b, 2, none⟩ = some (.slice (some ⟨D, 0, none⟩) j 64) := BB2.cell 2
  have a2 : w2.cell? ⟨w.heap.size, 0, none⟩ = some (.string ⟨#[]⟩) := A2.cell 0
  have fa2 := A2.frozen 0
  obtain ⟨sU, hU2⟩ := HS.out.1.kb k2 (by have := HS.out.2.1; have := HC.out.1; omega) (by simpa using fun h => HS.out.2.2.2.2.2.2.2.2.2 h.symm)
  have hE2 : Ee w2 0 aE := HE.out.1.kb k2 (HC.out.1 ▸ NN.out.1.1) NN.out.1.2
  unfold Ee at hE2
  have K2 : Kb w.heap.size [r] w w2 := K1.trans (k2.mono (by have := HC.out.1; omega))
  have EH2 : ∀ a, Eh w a → a.block ≠ r → Eh w2 a := fun a ⟨cc, tt, h⟩ hr => ⟨cc, tt, (K2.block a.block (by have := Eh.lt ⟨cc, tt, h⟩; exact this) (by simpa using hr)).trans h⟩
  cases r1 with
  | ends =>
    by_cases hl0 : l = []
    · have hn0 : (0 : Nat) = n := by rw [HN.out.1, hl0]; rfl
      rw [if_pos hn0] at he
      subst he
      have heq := fun W => eql_same aE W
      have HL := Lib.hid hl0
      clear hl0 hn0
      go_wp2_with fail
      refine wp_region_noPanic ?_
      go_region_with (fail)
      all_goals refine NoPanic.normal ?_
      all_goals go_wp2_with fail
      all_goals refine bodyPost_ret (ret_tmp_cell_tmp rfl rfl (A2.set_ 0 (.string sU)) Tryd.underlying61 (by kernel_rfl)) rfl ?_
      all_goals refine ⟨⟨_, sU, _, rfl, (by unfold CfeT; rw [if_pos HL.out]; rfl)⟩, ?_⟩
      all_goals first | exact ((K2.setCell (p := ⟨w.heap.size, 0, none⟩) (.inr (Nat.le_refl _)) _).drewN 1).kp (by simp) | exact (K2.setCell (p := ⟨w.heap.size, 0, none⟩) (.inr (Nat.le_refl _)) _).kp (by simp)
    · have hn0 : ¬ (0 : Nat) = n := by intro h; apply hl0; exact List.eq_nil_of_length_eq_zero (by rw [← HN.out.1]; exact h.symm)
      rw [if_neg hn0] at he
      subst he
      have heq := eql_other HS.out.2.2.2.2.2.2.1 (EH2 aU HS.out.2.2.2.1.1 HS.out.2.2.2.1.2) (EH2 aE HS.out.2.2.1.1 HS.out.2.2.1.2)
      have HL := Lib.hid hl0
      clear hl0 hn0
      go_wp2_with fail
      refine wp_region_noPanic ?_
      go_region_with (fail)
      all_goals refine NoPanic.normal ?_
      all_goals go_wp2_with fail
      all_goals refine bodyPost_ret (ret_tmp_cell_tmp rfl rfl (A2.set_ 0 (.string sU)) Tryd.underlying61 (by kernel_rfl)) rfl ?_
      all_goals refine ⟨⟨_, sU, _, rfl, (by unfold CfeT; rw [if_neg HL.out]; exact ⟨_, rfl⟩)⟩, ?_⟩
      all_goals first | exact ((K2.setCell (p := ⟨w.heap.size, 0, none⟩) (.inr (Nat.le_refl _)) _).drewN 1).kp (by simp) | exact (K2.setCell (p := ⟨w.heap.size, 0, none⟩) (.inr (Nat.le_refl _)) _).kp (by simp)
  | long =>
    have HL := Lib.hid (show ¬ l = [] from fun h => by have := HC.out.2.2.2.2; rw [h] at this; cases this)
    subst he
    have heq := eql_other HS.out.2.2.2.2.2.2.2.1 (EH2 aO HS.out.2.2.2.2.1.1 HS.out.2.2.2.2.1.2) (EH2 aE HS.out.2.2.1.1 HS.out.2.2.1.2)
    go_wp2_with fail
    refine wp_region_noPanic ?_
    go_region_with (fail)
    all_goals refine NoPanic.normal ?_
    all_goals go_wp2_with fail
    all_goals refine bodyPost_ret (ret_tmp_cell_tmp rfl rfl (A2.set_ 0 (.string sU)) Tryd.underlying61 (by kernel_rfl)) rfl ?_
    all_goals refine ⟨⟨_, sU, _, rfl, (by unfold CfeT; rw [if_neg HL.out]; exact ⟨_, rfl⟩)⟩, ?_⟩
    all_goals first | exact ((K2.setCell (p := ⟨w.heap.size, 0, none⟩) (.inr (Nat.le_refl _)) _).drewN 1).kp (by simp) | exact (K2.setCell (p := ⟨w.heap.size, 0, none⟩) (.inr (Nat.le_refl _)) _).kp (by simp)
  | needless =>
    have HL := Lib.hid (show ¬ l = [] from fun h => by have := HC.out.2.2.2.2; rw [h] at this; cases this)
    subst he
    have heq := eql_other HS.out.2.2.2.2.2.2.2.2.1 (EH2 aM HS.out.2.2.2.2.2.1.1 HS.out.2.2.2.2.2.1.2) (EH2 aE HS.out.2.2.1.1 HS.out.2.2.1.2)
    go_wp2_with fail
    refine wp_region_noPanic ?_
    go_region_with (fail)
    all_goals refine NoPanic.normal ?_
    all_goals go_wp2_with fail
    all_goals refine bodyPost_ret (ret_tmp_cell_tmp rfl rfl (A2.set_ 0 (.string sU)) Tryd.underlying61 (by kernel_rfl)) rfl ?_
    all_goals refine ⟨⟨_, sU, _, rfl, (by unfold CfeT; rw [if_neg HL.out]; exact ⟨_, rfl⟩)⟩, ?_⟩
    all_goals first | exact ((K2.setCell (p := ⟨w.heap.size, 0, none⟩) (.inr (Nat.le_refl _)) _).drewN 1).kp (by simp) | exact (K2.setCell (p := ⟨w.heap.size, 0, none⟩) (.inr (Nat.le_refl _)) _).kp (by simp)
  | ok v nn =>
    have HL := Lib.hid (show ¬ l = [] from fun h => by have := HC.out.2.2.2.2; rw [h] at this; cases this)
    obtain ⟨rfl, rfl⟩ := he
    by_cases h18 : v = 18
    · subst h18
      have hnn : nn = 1 := by
        have h := (uvRd_canon0 HC.out.2.2.2.2).2
        rw [uv18] at h
        exact h
      subst hnn
      have hDe := HC.out.1
      have hDD := HC.out.2.2.1
      have D2' : Blk w2 D 5 (Lib.byteCells (l.take 1) ++ zs2).toArray := D2
      have hl1 : 1 ≤ l.length := by rw [← HN.out.1]; exact hj
      have hz63 : zs2.length = 63 := by rw [hz2l]
      have R2' : Rdr w2 r g o n c 1 := R2
      have q2' : w2.cell? ⟨b, 2, none⟩ = some (.slice (some ⟨D, 0, none⟩) 1 64) := q2
      have hf := readFull_any r g o n c 1 D 1 33 63 l (Lib.byteCells (l.take 1)) zs2 5 aE aU w2 R2' c2 HN.out.1 hj HN.out.2.1 (by have := HN.out.2.2; omega) D2' (by rw [Lib.byteCells_length, List.length_take]; omega) (by omega) (by omega) (by omega) (fun h => hDD.2.1 h.symm) hDD.2.2.2.2.2 hDD.2.2.2.1
        (HE.out.1.kb k2 (hDe ▸ NN.out.1.1) NN.out.1.2) (HE.out.2.1.kb k2 (hDe ▸ NN.out.2.1.1) NN.out.2.1.2) ⟨by have := NN.out.1.2; simpa using this, by have := NN.out.1.1; omega⟩ ⟨by have := NN.out.2.1.2; simpa using this, by have := NN.out.2.1.1; omega⟩
      have HF := Lib.hid hf
      have HDD := Lib.hid (And.intro hDe hDD)
      clear hf R2 R2' c2 D2 D2' q2 hDe hDD
      go_wp2_with fail
      refine HF.out.mono ?_
      rintro e w3 ⟨hK3, h3a, h3b⟩
      have k3 : Kb D [r] w1 w3 := k2.trans (hK3 D [r] (.inl (by simp)) (.inr (Nat.le_refl _)))
      have K3 : Kb w.heap.size [r] w w3 := K1.trans (k3.mono (by have := HDD.out.1; omega))
      have BB3 := BB2.kb (hK3 (b + 1) [r, D] (.inl (by simp)) (.inl (by simp))) (Nat.lt_succ_self _) (by have := HDD.out.2; simp; omega)
      have A3 := A1.kb k3 (by have := HDD.out.1; omega) (by simpa using HC.out.2.1.1)
      obtain ⟨sV, hV3⟩ := HS.out.1.kb k3 (by have := HS.out.2.1; have := HDD.out.1; omega) (by simpa using fun h => HS.out.2.2.2.2.2.2.2.2.2 h.symm)
      have q3 : w3.cell? ⟨b, 2, none⟩ = some (.slice (some ⟨D, 0, none⟩) 1 64) := BB3.cell 2
      have a3 : w3.cell? ⟨w.heap.size, 0, none⟩ = some (.string ⟨#[]⟩) := A3.cell 0
      have fa3 := A3.frozen 0
      by_cases h33 : 33 ≤ n - 1
      · obtain ⟨rfl, R3, D3⟩ := h3a h33
        have hbad := v18_bad HC.out.2.2.2.1 HC.out.2.2.2.2 (by have := HN.out.1; omega)
        have hlt34 : (l.take 34).length = 34 := by rw [List.length_take]; have := HN.out.1; omega
        have hbs3 : Bs w3 D 0 (l.take 34) := by
          have hta : l.take 34 = l.take 1 ++ (l.drop 1).take 33 := List.take_add (i := 1) (j := 33)
          rw [hta]
          rw [← Lib.byteCells_append] at D3
          exact bs_pre D3
        have f3 := BB3.frozen 2
        have z3 := BB3.lt
        have hbs4 := hbs3.far (p := ⟨b, 2, none⟩) (by show D ≠ b; have := HDD.out.2.2.2.1; omega) (.slice (some ⟨D, 0, none⟩) 34 64)
        have BB4 := BB3.set_ 2 (.slice (some ⟨D, 0, none⟩) 34 64)
        have A4 := A3.far (p := ⟨b, 2, none⟩) HC.out.2.1.2 (.slice (some ⟨D, 0, none⟩) 34 64)
        have k4 : Kb D [r] w1 (w3.setCell ⟨b, 2, none⟩ (.slice (some ⟨D, 0, none⟩) 34 64)) := k3.setCell (p := ⟨b, 2, none⟩) (.inr (by show D ≤ b; have := HDD.out.1; omega)) _
        have hmc := mhCast_bad D 0 34 64 (l.take 34) (w3.setCell ⟨b, 2, none⟩ (.slice (some ⟨D, 0, none⟩) 34 64)) hlt34.symm (by omega) (by omega) hbs4 (by have := BB4.lt; have := HDD.out.1; omega) (by rw [hlt34]; exact hbad)
          (HE.out.2.2.1.kb k4 (HDD.out.1 ▸ NN.out.2.2.1.1) NN.out.2.2.1.2).er (HE.out.2.2.2.1.kb k4 (HDD.out.1 ▸ NN.out.2.2.2.1.1) NN.out.2.2.2.1.2).er (HE.out.2.2.2.2.1.kb k4 (HDD.out.1 ▸ NN.out.2.2.2.2.1.1) NN.out.2.2.2.2.1.2) (HE.out.2.2.2.2.2.kb k4 (HDD.out.1 ▸ NN.out.2.2.2.2.2.1) NN.out.2.2.2.2.2.2)
        have HM := Lib.hid hmc
        clear hmc A3 k3 hbs3 h3a h3b BB3 D3 R3 h33 hbad HF k2 BB2 A2 q2' a2 fa2 hU2 hE2 a3 fa3 K3
        go_wp2_with fail
        clear q3 f3 hV3
        generalize w3.setCell ⟨b, 2, none⟩ (.slice (some ⟨D, 0, none⟩) 34 64) = w4 at *
        refine HM.out.mono ?_
        rintro e w5 ⟨⟨vm, t, p, rfl⟩, b5⟩
        have BB5 := BB4.old b5
        have A5 := A4.old b5
        have k5 : Kb D [r] w1 w5 := k4.trans (Kb.of_below (b5.mono (by have := BB4.lt; have := HDD.out.1; omega)) [r])
        have K5 : Kb w.heap.size [r] w w5 := K1.trans (k5.mono (by have := HDD.out.1; omega))
        obtain ⟨sX, hX5⟩ := HS.out.1.kb k5 (by have := HS.out.2.1; have := HDD.out.1; omega) (by simpa using fun h => HS.out.2.2.2.2.2.2.2.2.2 h.symm)
        have q5 : w5.cell? ⟨b, 2, none⟩ = some (.slice (some ⟨D, 0, none⟩) 34 64) := BB5.cell 2
        have a5 : w5.cell? ⟨w.heap.size, 0, none⟩ = some (.string ⟨#[]⟩) := A5.cell 0
        have fa5 := A5.frozen 0
        clear HM BB4 A4 k4 hbs4 b5
        go_wp2_with fail
        refine wp_region_noPanic ?_
        go_region_with (fail)
        all_goals refine NoPanic.normal ?_
        all_goals go_wp2_with fail
        all_goals refine bodyPost_ret (ret_tmp_cell_tmp rfl rfl (A5.set_ 0 (.string sX)) Tryd.underlying61 (by kernel_rfl)) rfl ?_
        all_goals refine ⟨⟨_, sX, _, rfl, (by unfold CfeT; rw [if_neg HL.out]; exact ⟨_, rfl⟩)⟩, ?_⟩
        all_goals first | exact ((K5.setCell (p := ⟨w.heap.size, 0, none⟩) (.inr (Nat.le_refl _)) _).drewN 1).kp (by simp) | exact (K5.setCell (p := ⟨w.heap.size, 0, none⟩) (.inr (Nat.le_refl _)) _).kp (by simp)
      · have he := h3b (by omega)
        obtain ⟨K, hKK⟩ : ∃ K, n - 1 = K := ⟨_, rfl⟩
        obtain ⟨aX, hX⟩ : ∃ aX, (if 1 = n then aE else aU) = aX := ⟨_, rfl⟩
        rw [hKK, hX] at he
        have hK33 : K < 33 := by omega
        clear hKK hX h3a h3b h33 HF k2 BB2 A2 q2' a2 fa2 hU2 hE2 hl1 hz63 hj hz2l
        subst he
        go_wp2_with fail
        refine wp_region_noPanic ?_
        go_region_with (fail)
        all_goals refine NoPanic.normal ?_
        all_goals go_wp2_with fail
        all_goals refine bodyPost_ret (ret_tmp_cell_tmp rfl rfl (A3.set_ 0 (.string sV)) Tryd.underlying61 (by kernel_rfl)) rfl ?_
        all_goals refine ⟨⟨_, sV, _, rfl, (by unfold CfeT; rw [if_neg HL.out]; exact ⟨_, rfl⟩)⟩, ?_⟩
        all_goals first | exact ((K3.setCell (p := ⟨w.heap.size, 0, none⟩) (.inr (Nat.le_refl _)) _).drewN 1).kp (by simp) | exact (K3.setCell (p := ⟨w.heap.size, 0, none⟩) (.inr (Nat.le_refl _)) _).kp (by simp)
    by_cases h1 : v = 1
    · subst h1
      have hnn : nn = 1 := by
        have h := (uvRd_canon0 HC.out.2.2.2.2).2
        rw [uv1] at h
        exact h
      subst hnn
      have hs1 : D ≤ w1.heap.size := by rw [← HC.out.1]; exact s1'
      have HU1 := Lib.hid hs1
      have hDD := HC.out.2.2.1
      have HU := Lib.hid (fun (i : Nat) (W : World) (h : Bbr b r D g o n c l i W) (hi : i ≤ n) (hi54 : i ≤ 54) (k : Kb D [r] w1 W) (hDs : D ≤ W.heap.size) =>
        bbUvarint_any b r D g o n c i D [r] l aE aU aO aM W h HN.out.1 hi hi54 (by have := HN.out.2.2; omega) hDD (.inl (by simp)) (.inr (by have := HC.out.1; omega)) (.inr (Nat.le_refl _)) hDs
          (HE.out.1.kb k (HC.out.1 ▸ NN.out.1.1) NN.out.1.2) (HE.out.2.1.kb k (HC.out.1 ▸ NN.out.2.1.1) NN.out.2.1.2) (HE.out.2.2.1.kb k (HC.out.1 ▸ NN.out.2.2.1.1) NN.out.2.2.1.2) (HE.out.2.2.2.1.kb k (HC.out.1 ▸ NN.out.2.2.2.1.1) NN.out.2.2.2.1.2)
          (HC.out.1 ▸ NN.out.1) (HC.out.1 ▸ NN.out.2.1) (HC.out.1 ▸ NN.out.2.2.1) (HC.out.1 ▸ NN.out.2.2.2.1) (by have := NN.out.1.2; simpa using fun h => this (by simp [h])))
      have BB2' : Bbr b r D g o n c l 1 w2 := ⟨R2, BB2, ⟨zs2, hz2l, D2⟩, c2⟩
      have kk2 := k2
      have hj1 : 1 ≤ n := hj
      clear hs1 hDD hE2 q2 a2 fa2 hU2 A2 K2 EH2 k2 hj
      obtain ⟨r2, h2⟩ : ∃ q, uvRd (l.drop (1)) 0 0 = q := ⟨_, rfl⟩
      have hbu := HU.out (1) w2 BB2' (by omega) (by omega) kk2 (Nat.le_trans HU1.out kk2.size)
      rw [h2] at hbu
      have HB2 := Lib.hid hbu
      have H2 := Lib.hid h2
      clear hbu h2
      go_wp2_with fail
      refine HB2.out.mono ?_
      rintro e w3 ⟨kq, jj3, hjj3, hB3, he⟩
      have kk3 := kk2.trans kq
      clear kq HB2 BB2'
      cases r2 with
      | ends =>
        obtain ⟨aX, haX⟩ : ∃ aX, (if (1) = n then aE else aU) = aX := ⟨_, rfl⟩
        rw [haX] at he
        clear haX
        subst he
        have AX := A1.kb kk3 (by have := HC.out.1; omega) (by simpa using HC.out.2.1.1)
        have KX : Kb w.heap.size [r] w w3 := K1.trans (kk3.mono (by have := HC.out.1; omega))
        obtain ⟨sX, hX⟩ := HS.out.1.kb kk3 (by have := HS.out.2.1; have := HC.out.1; omega) (by simpa using fun h => HS.out.2.2.2.2.2.2.2.2.2 h.symm)
        have qX : w3.cell? ⟨b, 2, none⟩ = some (.slice (some ⟨D, 0, none⟩) jj3 64) := hB3.2.1.cell 2
        have aX0 : w3.cell? ⟨w.heap.size, 0, none⟩ = some (.string ⟨#[]⟩) := AX.cell 0
        have faX := AX.frozen 0
        go_wp2_with fail
        refine wp_region_noPanic ?_
        go_region_with (fail)
        all_goals refine NoPanic.normal ?_
        all_goals go_wp2_with fail
        all_goals refine bodyPost_ret (ret_tmp_cell_tmp rfl rfl (AX.set_ 0 (.string sX)) Tryd.underlying61 (by kernel_rfl)) rfl ?_
        all_goals refine ⟨⟨_, sX, _, rfl, (by unfold CfeT; rw [if_neg HL.out]; exact ⟨_, rfl⟩)⟩, ?_⟩
        all_goals first | exact ((KX.setCell (p := ⟨w.heap.size, 0, none⟩) (.inr (Nat.le_refl _)) _).drewN 1).kp (by simp) | exact (KX.setCell (p := ⟨w.heap.size, 0, none⟩) (.inr (Nat.le_refl _)) _).kp (by simp)
      | long =>
        subst he
        have AX := A1.kb kk3 (by have := HC.out.1; omega) (by simpa using HC.out.2.1.1)
        have KX : Kb w.heap.size [r] w w3 := K1.trans (kk3.mono (by have := HC.out.1; omega))
        obtain ⟨sX, hX⟩ := HS.out.1.kb kk3 (by have := HS.out.2.1; have := HC.out.1; omega) (by simpa using fun h => HS.out.2.2.2.2.2.2.2.2.2 h.symm)
        have qX : w3.cell? ⟨b, 2, none⟩ = some (.slice (some ⟨D, 0, none⟩) jj3 64) := hB3.2.1.cell 2
        have aX0 : w3.cell? ⟨w.heap.size, 0, none⟩ = some (.string ⟨#[]⟩) := AX.cell 0
        have faX := AX.frozen 0
        go_wp2_with fail
        refine wp_region_noPanic ?_
        go_region_with (fail)
        all_goals refine NoPanic.normal ?_
        all_goals go_wp2_with fail
        all_goals refine bodyPost_ret (ret_tmp_cell_tmp rfl rfl (AX.set_ 0 (.string sX)) Tryd.underlying61 (by kernel_rfl)) rfl ?_
        all_goals refine ⟨⟨_, sX, _, rfl, (by unfold CfeT; rw [if_neg HL.out]; exact ⟨_, rfl⟩)⟩, ?_⟩
        all_goals first | exact ((KX.setCell (p := ⟨w.heap.size, 0, none⟩) (.inr (Nat.le_refl _)) _).drewN 1).kp (by simp) | exact (KX.setCell (p := ⟨w.heap.size, 0, none⟩) (.inr (Nat.le_refl _)) _).kp (by simp)
      | needless =>
        subst he
        have AX := A1.kb kk3 (by have := HC.out.1; omega) (by simpa using HC.out.2.1.1)
        have KX : Kb w.heap.size [r] w w3 := K1.trans (kk3.mono (by have := HC.out.1; omega))
        obtain ⟨sX, hX⟩ := HS.out.1.kb kk3 (by have := HS.out.2.1; have := HC.out.1; omega) (by simpa using fun h => HS.out.2.2.2.2.2.2.2.2.2 h.symm)
        have qX : w3.cell? ⟨b, 2, none⟩ = some (.slice (some ⟨D, 0, none⟩) jj3 64) := hB3.2.1.cell 2
        have aX0 : w3.cell? ⟨w.heap.size, 0, none⟩ = some (.string ⟨#[]⟩) := AX.cell 0
        have faX := AX.frozen 0
        go_wp2_with fail
        refine wp_region_noPanic ?_
        go_region_with (fail)
        all_goals refine NoPanic.normal ?_
        all_goals go_wp2_with fail
        all_goals refine bodyPost_ret (ret_tmp_cell_tmp rfl rfl (AX.set_ 0 (.string sX)) Tryd.underlying61 (by kernel_rfl)) rfl ?_
        all_goals refine ⟨⟨_, sX, _, rfl, (by unfold CfeT; rw [if_neg HL.out]; exact ⟨_, rfl⟩)⟩, ?_⟩
        all_goals first | exact ((KX.setCell (p := ⟨w.heap.size, 0, none⟩) (.inr (Nat.le_refl _)) _).drewN 1).kp (by simp) | exact (KX.setCell (p := ⟨w.heap.size, 0, none⟩) (.inr (Nat.le_refl _)) _).kp (by simp)
      | ok codec m =>
        obtain ⟨rfl, rfl⟩ := he
        have hok := uvRd_ok0 H2.out
        have hm9 : m ≤ 9 := hok.2.2.1
        have BB3' := hB3
        have q3 : w3.cell? ⟨b, 2, none⟩ = some (.slice (some ⟨D, 0, none⟩) (1 + m) 64) := hB3.2.1.cell 2
        clear hok hB3
        obtain ⟨r3, h3⟩ : ∃ q, uvRd (l.drop (1 + m)) 0 0 = q := ⟨_, rfl⟩
        have hbu := HU.out (1 + m) w3 BB3' (by omega) (by omega) kk3 (Nat.le_trans HU1.out kk3.size)
        rw [h3] at hbu
        have HB3 := Lib.hid hbu
        have H3 := Lib.hid h3
        clear hbu h3
        go_wp2_with fail
        clear q3
        refine HB3.out.mono ?_
        rintro e w4 ⟨kq, jj4, hjj4, hB4, he⟩
        have kk4 := kk3.trans kq
        clear kq HB3 BB3'
        cases r3 with
        | ends =>
          obtain ⟨aX, haX⟩ : ∃ aX, (if (1 + m) = n then aE else aU) = aX := ⟨_, rfl⟩
          rw [haX] at he
          clear haX
          subst he
          have AX := A1.kb kk4 (by have := HC.out.1; omega) (by simpa using HC.out.2.1.1)
          have KX : Kb w.heap.size [r] w w4 := K1.trans (kk4.mono (by have := HC.out.1; omega))
          obtain ⟨sX, hX⟩ := HS.out.1.kb kk4 (by have := HS.out.2.1; have := HC.out.1; omega) (by simpa using fun h => HS.out.2.2.2.2.2.2.2.2.2 h.symm)
          have qX : w4.cell? ⟨b, 2, none⟩ = some (.slice (some ⟨D, 0, none⟩) jj4 64) := hB4.2.1.cell 2
          have aX0 : w4.cell? ⟨w.heap.size, 0, none⟩ = some (.string ⟨#[]⟩) := AX.cell 0
          have faX := AX.frozen 0
          go_wp2_with fail
          refine wp_region_noPanic ?_
          go_region_with (fail)
          all_goals refine NoPanic.normal ?_
          all_goals go_wp2_with fail
          all_goals refine bodyPost_ret (ret_tmp_cell_tmp rfl rfl (AX.set_ 0 (.string sX)) Tryd.underlying61 (by kernel_rfl)) rfl ?_
          all_goals refine ⟨⟨_, sX, _, rfl, (by unfold CfeT; rw [if_neg HL.out]; exact ⟨_, rfl⟩)⟩, ?_⟩
          all_goals first | exact ((KX.setCell (p := ⟨w.heap.size, 0, none⟩) (.inr (Nat.le_refl _)) _).drewN 1).kp (by simp) | exact (KX.setCell (p := ⟨w.heap.size, 0, none⟩) (.inr (Nat.le_refl _)) _).kp (by simp)
        | long =>
          subst he
          have AX := A1.kb kk4 (by have := HC.out.1; omega) (by simpa using HC.out.2.1.1)
          have KX : Kb w.heap.size [r] w w4 := K1.trans (kk4.mono (by have := HC.out.1; omega))
          obtain ⟨sX, hX⟩ := HS.out.1.kb kk4 (by have := HS.out.2.1; have := HC.out.1; omega) (by simpa using fun h => HS.out.2.2.2.2.2.2.2.2.2 h.symm)
          have qX : w4.cell? ⟨b, 2, none⟩ = some (.slice (some ⟨D, 0, none⟩) jj4 64) := hB4.2.1.cell 2
          have aX0 : w4.cell? ⟨w.heap.size, 0, none⟩ = some (.string ⟨#[]⟩) := AX.cell 0
          have faX := AX.frozen 0
          go_wp2_with fail
          refine wp_region_noPanic ?_
          go_region_with (fail)
          all_goals refine NoPanic.normal ?_
          all_goals go_wp2_with fail
          all_goals refine bodyPost_ret (ret_tmp_cell_tmp rfl rfl (AX.set_ 0 (.string sX)) Tryd.underlying61 (by kernel_rfl)) rfl ?_
          all_goals refine ⟨⟨_, sX, _, rfl, (by unfold CfeT; rw [if_neg HL.out]; exact ⟨_, rfl⟩)⟩, ?_⟩
          all_goals first | exact ((KX.setCell (p := ⟨w.heap.size, 0, none⟩) (.inr (Nat.le_refl _)) _).drewN 1).kp (by simp) | exact (KX.setCell (p := ⟨w.heap.size, 0, none⟩) (.inr (Nat.le_refl _)) _).kp (by simp)
        | needless =>
          subst he
          have AX := A1.kb kk4 (by have := HC.out.1; omega) (by simpa using HC.out.2.1.1)
          have KX : Kb w.heap.size [r] w w4 := K1.trans (kk4.mono (by have := HC.out.1; omega))
          obtain ⟨sX, hX⟩ := HS.out.1.kb kk4 (by have := HS.out.2.1; have := HC.out.1; omega) (by simpa using fun h => HS.out.2.2.2.2.2.2.2.2.2 h.symm)
          have qX : w4.cell? ⟨b, 2, none⟩ = some (.slice (some ⟨D, 0, none⟩) jj4 64) := hB4.2.1.cell 2
          have aX0 : w4.cell? ⟨w.heap.size, 0, none⟩ = some (.string ⟨#[]⟩) := AX.cell 0
          have faX := AX.frozen 0
          go_wp2_with fail
          refine wp_region_noPanic ?_
          go_region_with (fail)
          all_goals refine NoPanic.normal ?_
          all_goals go_wp2_with fail
          all_goals refine bodyPost_ret (ret_tmp_cell_tmp rfl rfl (AX.set_ 0 (.string sX)) Tryd.underlying61 (by kernel_rfl)) rfl ?_
          all_goals refine ⟨⟨_, sX, _, rfl, (by unfold CfeT; rw [if_neg HL.out]; exact ⟨_, rfl⟩)⟩, ?_⟩
          all_goals first | exact ((KX.setCell (p := ⟨w.heap.size, 0, none⟩) (.inr (Nat.le_refl _)) _).drewN 1).kp (by simp) | exact (KX.setCell (p := ⟨w.heap.size, 0, none⟩) (.inr (Nat.le_refl _)) _).kp (by simp)
        | ok code m3 =>
          obtain ⟨rfl, rfl⟩ := he
          have hok := uvRd_ok0 H3.out
          have hm39 : m3 ≤ 9 := hok.2.2.1
          have BB4' := hB4
          clear hok hB4
          obtain ⟨r4, h4⟩ : ∃ q, uvRd (l.drop (1 + m + m3)) 0 0 = q := ⟨_, rfl⟩
          have hbu := HU.out (1 + m + m3) w4 BB4' (by omega) (by omega) kk4 (Nat.le_trans HU1.out kk4.size)
          rw [h4] at hbu
          have HB4 := Lib.hid hbu
          have H4 := Lib.hid h4
          clear hbu h4
          go_wp2_with fail
          refine HB4.out.mono ?_
          rintro e w5 ⟨kq, jj5, hjj5, hB5, he⟩
          have kk5 := kk4.trans kq
          clear kq HB4 BB4'
          cases r4 with
          | ends =>
            obtain ⟨aX, haX⟩ : ∃ aX, (if (1 + m + m3) = n then aE else aU) = aX := ⟨_, rfl⟩
            rw [haX] at he
            clear haX
            subst he
            have AX := A1.kb kk5 (by have := HC.out.1; omega) (by simpa using HC.out.2.1.1)
            have KX : Kb w.heap.size [r] w w5 := K1.trans (kk5.mono (by have := HC.out.1; omega))
            obtain ⟨sX, hX⟩ := HS.out.1.kb kk5 (by have := HS.out.2.1; have := HC.out.1; omega) (by simpa using fun h => HS.out.2.2.2.2.2.2.2.2.2 h.symm)
            have qX : w5.cell? ⟨b, 2, none⟩ = some (.slice (some ⟨D, 0, none⟩) jj5 64) := hB5.2.1.cell 2
            have aX0 : w5.cell? ⟨w.heap.size, 0, none⟩ = some (.string ⟨#[]⟩) := AX.cell 0
            have faX := AX.frozen 0
            go_wp2_with fail
            refine wp_region_noPanic ?_
            go_region_with (fail)
            all_goals refine NoPanic.normal ?_
            all_goals go_wp2_with fail
            all_goals refine bodyPost_ret (ret_tmp_cell_tmp rfl rfl (AX.set_ 0 (.string sX)) Tryd.underlying61 (by kernel_rfl)) rfl ?_
            all_goals refine ⟨⟨_, sX, _, rfl, (by unfold CfeT; rw [if_neg HL.out]; exact ⟨_, rfl⟩)⟩, ?_⟩
            all_goals first | exact ((KX.setCell (p := ⟨w.heap.size, 0, none⟩) (.inr (Nat.le_refl _)) _).drewN 1).kp (by simp) | exact (KX.setCell (p := ⟨w.heap.size, 0, none⟩) (.inr (Nat.le_refl _)) _).kp (by simp)
          | long =>
            subst he
            have AX := A1.kb kk5 (by have := HC.out.1; omega) (by simpa using HC.out.2.1.1)
            have KX : Kb w.heap.size [r] w w5 := K1.trans (kk5.mono (by have := HC.out.1; omega))
            obtain ⟨sX, hX⟩ := HS.out.1.kb kk5 (by have := HS.out.2.1; have := HC.out.1; omega) (by simpa using fun h => HS.out.2.2.2.2.2.2.2.2.2 h.symm)
            have qX : w5.cell? ⟨b, 2, none⟩ = some (.slice (some ⟨D, 0, none⟩) jj5 64) := hB5.2.1.cell 2
            have aX0 : w5.cell? ⟨w.heap.size, 0, none⟩ = some (.string ⟨#[]⟩) := AX.cell 0
            have faX := AX.frozen 0
            go_wp2_with fail
            refine wp_region_noPanic ?_
            go_region_with (fail)
            all_goals refine NoPanic.normal ?_
            all_goals go_wp2_with fail
            all_goals refine bodyPost_ret (ret_tmp_cell_tmp rfl rfl (AX.set_ 0 (.string sX)) Tryd.underlying61 (by kernel_rfl)) rfl ?_
            all_goals refine ⟨⟨_, sX, _, rfl, (by unfold CfeT; rw [if_neg HL.out]; exact ⟨_, rfl⟩)⟩, ?_⟩
            all_goals first | exact ((KX.setCell (p := ⟨w.heap.size, 0, none⟩) (.inr (Nat.le_refl _)) _).drewN 1).kp (by simp) | exact (KX.setCell (p := ⟨w.heap.size, 0, none⟩) (.inr (Nat.le_refl _)) _).kp (by simp)
          | needless =>
            subst he
            have AX := A1.kb kk5 (by have := HC.out.1; omega) (by simpa using HC.out.2.1.1)
            have KX : Kb w.heap.size [r] w w5 := K1.trans (kk5.mono (by have := HC.out.1; omega))
            obtain ⟨sX, hX⟩ := HS.out.1.kb kk5 (by have := HS.out.2.1; have := HC.out.1; omega) (by simpa using fun h => HS.out.2.2.2.2.2.2.2.2.2 h.symm)
            have qX : w5.cell? ⟨b, 2, none⟩ = some (.slice (some ⟨D, 0, none⟩) jj5 64) := hB5.2.1.cell 2
            have aX0 : w5.cell? ⟨w.heap.size, 0, none⟩ = some (.string ⟨#[]⟩) := AX.cell 0
            have faX := AX.frozen 0
            go_wp2_with fail
            refine wp_region_noPanic ?_
            go_region_with (fail)
            all_goals refine NoPanic.normal ?_
            all_goals go_wp2_with fail
            all_goals refine bodyPost_ret (ret_tmp_cell_tmp rfl rfl (AX.set_ 0 (.string sX)) Tryd.underlying61 (by kernel_rfl)) rfl ?_
            all_goals refine ⟨⟨_, sX, _, rfl, (by unfold CfeT; rw [if_neg HL.out]; exact ⟨_, rfl⟩)⟩, ?_⟩
            all_goals first | exact ((KX.setCell (p := ⟨w.heap.size, 0, none⟩) (.inr (Nat.le_refl _)) _).drewN 1).kp (by simp) | exact (KX.setCell (p := ⟨w.heap.size, 0, none⟩) (.inr (Nat.le_refl _)) _).kp (by simp)
          | ok size m4 =>
            exact (HNO.out _ _ _ _ _ _ HC.out.2.2.2.2 H2.out H3.out H4.out).elim
    have d18 : ((v : Int) == 18) = false := by simp; omega
    have d1 : ((v : Int) == 1) = false := by simp; omega
    have HF2 := Lib.hid (show ∀ W', Below w2.heap.size w2 W' → Blk W' w.heap.size 61 #[.string ⟨#[]⟩] ∧ W'.cell? ⟨4, 0, none⟩ = some (.string sU) ∧ W'.cell? ⟨w.heap.size, 0, none⟩ = some (.string ⟨#[]⟩) ∧ W'.frozen? ⟨w.heap.size, 0, none⟩ = false ∧ W'.cell? ⟨b, 2, none⟩ = some (.slice (some ⟨D, 0, none⟩) (0 + nn) 64) from
      fun W' hb' => ⟨A2.old hb', (hb'.cell (p := ⟨4, 0, none⟩) (World.block_lt_of_cell? w2 _ hU2)).trans hU2, (A2.old hb').cell 0, (A2.old hb').frozen 0, (BB2.old hb').cell 2⟩)
    go_wp2_with fail
    refine wp_region_noPanic ?_
    go_region_with (go_at_call 56; refine (errorsNew_any _ _).mono ?_; rintro _ w3 ⟨⟨t, p, rfl⟩, b3⟩; have b23 : Below w2.heap.size w2 w3 := ((Below.refl _ _).drew).trans b3; obtain ⟨A3, u3, a3, fa3, q3⟩ := HF2.out w3 b23)
    all_goals refine NoPanic.normal ?_
    all_goals go_wp2_with fail
    all_goals have K3 : Kb w.heap.size [r] w w3 := K2.trans (Kb.of_below (b23.mono K2.size) [r])
    all_goals refine bodyPost_ret (ret_tmp_cell_tmp rfl rfl (A3.set_ 0 (.string sU)) Tryd.underlying61 (by kernel_rfl)) rfl ?_
    all_goals refine ⟨⟨_, sU, _, rfl, (by unfold CfeT; rw [if_neg HL.out]; exact ⟨_, rfl⟩)⟩, ?_⟩
    all_goals first | exact ((K3.setCell (p := ⟨w.heap.size, 0, none⟩) (.inr (Nat.le_refl _)) _).drewN 1).kp (by simp) | exact (K3.setCell (p := ⟨w.heap.size, 0, none⟩) (.inr (Nat.le_refl _)) _).kp (by simp)
end Go.Proofs.YtgkhofnedhlgdaaDoor
