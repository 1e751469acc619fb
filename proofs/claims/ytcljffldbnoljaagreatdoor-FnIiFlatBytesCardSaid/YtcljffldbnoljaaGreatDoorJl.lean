/-
  (*index.MultihashIndexSorted).Load: its walk. Conditions: as each contract says.
-/
import Derived.Test.YtcljffldbnoljaaGreatDoorJJi
import Derived.BigRegion
import Derived.Deep.Cut
namespace Go.Proofs.YtcljffldbnoljaaGreatDoor
open Go.RowKit Go.Sort Go.Lib

set_option maxRecDepth 100000 in
set_option maxHeartbeats 4000000 in
theorem newCoded_any (w : World) : Calls Tryz.prog 168 #[] w fun e w' => ∃ p q, e = .returned (.pointer (some ⟨p, 0, none⟩)) ∧ Blk w' p 239 #[.map (some q), .int .u64 0] ∧ MapK 172 .u32 w' q [] (fun _ => none) ∧ p ≠ q ∧ w.heap.size ≤ p ∧ w.heap.size ≤ q ∧ Below w.heap.size w w' := by
  obtain ⟨w1, hw1⟩ : ∃ w1, w.alloc (.map #[] 0) = w1 := ⟨_, rfl⟩
  have b1 : Below w.heap.size w w1 := by rw [← hw1]; exact Old.alloc (Below.refl _ _) _
  have hM : MapK 172 .u32 w1 w.heap.size [] (fun _ => none) := by rw [← hw1]; exact mapK_made _ _ _
  have hs : w1.heap.size = w.heap.size + 1 := by rw [← hw1]; simp
  have hmm := @run_makeMap Tryz.prog
  obtain ⟨q, hq⟩ : ∃ q, w.heap.size = q := ⟨_, rfl⟩
  have b2 : Below w.heap.size w (w1.alloc (.cells #[.map (some q), .int .u64 0] 239)) := Old.alloc b1 _
  have N2 := Blk.new w1 239 #[.map (some q), .int .u64 0]
  have hM2 := hM.old (Old.alloc (Below.refl w1.heap.size w1) (.cells #[.map (some q), .int .u64 0] 239))
  have H := Lib.hid (And.intro b2 (And.intro N2 (And.intro hM2 (And.intro hs hq))))
  rw [hq] at hM2 hs
  clear b1 hM b2 N2 hM2 hs
  go_enter Tryz.func168, Tryz.ntmps168
  go_wp2_with fail
  obtain ⟨b2, N2, hM2, hs, hq2⟩ := H.out
  exact bodyPost_ret (v := .pointer (some ⟨w1.heap.size, 0, none⟩)) (by simp [results, Tryz.results168, go_sem]) rfl ⟨w1.heap.size, q, rfl, N2, by have h := hM2; rw [hq2] at h; exact h, by omega, by omega, by omega, b2⟩

set_option maxRecDepth 100000 in
set_option maxHeartbeats 4000000 in
theorem put_any (pb mb p : Nat) (x : Int) (w w9 : World) (hp : w.cell? ⟨pb, 0, none⟩ = some (.map (some mb))) (hc : w.cell? ⟨p, 1, none⟩ = some (.int .u64 x)) (hmu : (Instr.mapUpdate 135 (.map (some mb)) (.int .u64 x) (.pointer (some ⟨p, 0, none⟩))).run Tryz.prog w.drew = .ok () w9) :
    Calls Tryz.prog 170 #[.pointer (some ⟨pb, 0, none⟩), .pointer (some ⟨p, 0, none⟩)] w fun e w' => e = .returned (.tuple #[]) ∧ w' = w9 := by
  go_enter Tryz.func170, Tryz.ntmps170
  go_wp2_with fail
  go_region
  all_goals go_wp2_with fail
  all_goals go_end0
  all_goals exact ⟨rfl, rfl⟩

set_option maxRecDepth 100000 in
set_option maxHeartbeats 16000000 in
theorem mhLoad_any (pb mb : Nat) (v : Value) (L : List EntL) (w0 w : World) (hp : w.cell? ⟨pb, 0, none⟩ = some (.map (some mb))) (hpm : pb ≠ mb) (hM : MapK 25 .u64 w mb [] (fun _ => none)) (hv : RecV w v (L.map saysE)) (hst : ∀ x ∈ L, x.ok) (hn : L.length ≤ 60) (E : E4 w0) (b0 : Below w0.heap.size w0 w) (hmb : w0.heap.size ≤ mb) :
    Calls Tryz.prog 165 #[.pointer (some ⟨pb, 0, none⟩), v] w (MhPost mb L w) := by
  obtain ⟨b, c, rfl⟩ := recV_form hv
  rw [List.length_map] at hv ⊢
  obtain ⟨n, hnl⟩ : ∃ n, L.length = n := ⟨_, rfl⟩
  rw [hnl] at hv hn ⊢
  have hmm := @run_makeMap Tryz.prog
  obtain ⟨w1, hw1⟩ : ∃ w1, w.alloc (.map #[] 0) = w1 := ⟨_, rfl⟩
  obtain ⟨m, hm⟩ : ∃ m, w.heap.size = m := ⟨_, rfl⟩
  have b1 : Below w.heap.size w w1 := by rw [← hw1]; exact Old.alloc (Below.refl _ _) _
  have hS : Split2 L w1 m m 0 := by rw [← hw1, ← hm]; exact ⟨[], _, _, grp_made _ _, gOk_nil _ _ _ _, Nat.le_refl _⟩
  have hs1 : w1.heap.size = m + 1 := by rw [← hw1, ← hm]; simp
  have HE := Lib.hid (And.intro E (And.intro b0 hmb))
  have E := E.old b0
  have H := Lib.hid (And.intro hp (And.intro hpm (And.intro hM (And.intro hv (And.intro hst (And.intro hnl (And.intro E (And.intro b1 (And.intro hS (And.intro hs1 hm))))))))))
  clear hp hpm hM hv hst hnl E b1 hS hs1 b0 hmb
  go_enter Tryz.func165, Tryz.ntmps165
  go_wp2_with fail
  clear hw1 hm
  go_loopw [20] (fun v20 wr => ∃ (i : Nat), i ≤ n ∧ v20 = .int .i64 i ∧ Split2 L wr m m i ∧ Below w.heap.size w wr ∧ m < wr.heap.size) (fun v20 _ => n - (intOf v20).toNat)
  case atStart => exact ⟨0, Nat.zero_le _, rfl, H.out.2.2.2.2.2.2.2.2.1, H.out.2.2.2.2.2.2.2.1, by have := H.out.2.2.2.2.2.2.2.2.2.1; omega⟩
  case round =>
    obtain ⟨i, hi, rfl, hS, hB, hmw⟩ := hrel
    by_cases hik : i < n
    · have hdd : decide ((i : Int) < (n : Int)) = true := by rw [decide_eq_true_eq]; omega
      have hiL : i < L.length := by rw [H.out.2.2.2.2.2.1]; exact hik
      obtain ⟨x, hxL⟩ : ∃ x, L[i] = x := ⟨_, rfl⟩
      have hRv : RecV wr (.slice b n c) (L.map saysE) := RowV.old H.out.2.2.2.1 hB
      have hat := recV_at hRv (i := i) (by rw [List.length_map]; exact hiL)
      rw [List.getElem_map, hxL] at hat
      obtain ⟨g, rfl, -, -, hgw, x0, x1⟩ := hat
      simp only [saysE] at x0 x1
      have hok : x.ok := H.out.2.2.2.2.1 x (by rw [← hxL]; exact List.getElem_mem hiL)
      obtain ⟨l, hl⟩ : ∃ l, x.c.wr = l := ⟨_, rfl⟩
      rw [hl] at x0
      obtain ⟨W, hW⟩ : ∃ W, wr.alloc (.cells #[.string ⟨l.toArray⟩, .int .u64 (x.off : Nat)] 65) = W := ⟨_, rfl⟩
      obtain ⟨dd, hdd'⟩ : ∃ dd, wr.heap.size = dd := ⟨_, rfl⟩
      have bW : Below wr.heap.size wr W := by rw [← hW]; exact Old.alloc (Below.refl _ _) _
      have RW : Blk W dd 65 #[.string ⟨l.toArray⟩, .int .u64 (x.off : Nat)] := by rw [← hW, ← hdd']; exact Blk.new _ _ _
      have a0 : W.cell? ⟨dd, 0, none⟩ = some (.string ⟨l.toArray⟩) := RW.cell 0
      have EW := H.out.2.2.2.2.2.2.1.old (Old.trans hB bW)
      have hd200 := hok.1.2.2
      have hw := wr_len3 hok.1.1 (by omega)
      rw [hl] at hw
      have hmh := mhWr_len hok.1.1 (by omega)
      have HH := Lib.hid (cidHash_fresh x.c l W hl.symm hok.1.1 (by omega) (by omega) hw.2 EW.e0 EW.e1 EW.e2)
      have HX := Lib.hid (And.intro hxL (And.intro hok (And.intro hmh (And.intro hl hiL))))
      have HW := Lib.hid (And.intro (hS.old bW) (And.intro (Old.trans hB bW) (And.intro RW (And.intro hdd' (And.intro (Nat.lt_of_lt_of_le hmw bW.size) bW.size)))))
      have hmd : m < dd := by rw [← hdd']; exact hmw
      have hiI : (i : Int) < (n : Int) := by omega
      clear hS hB hRv RW EW hd200 hw hmh hok hxL hl hmw bW
      go_wp2_with fail
      clear hW a0 x0 x1
      refine HH.out.mono ?_
      rintro e w3 ⟨g2, o2, n2, c2, rfl, hn2, hnc2, hgf, hg2, hbs, b3⟩
      have b03 := Old.trans HW.out.2.1 b3
      have E3 := H.out.2.2.2.2.2.2.1.old b03
      have hdc := mhDecode_any g2 o2 n2 c2 (mhWr x.c.code x.c.digest) w3 hn2 (by have := HX.out.2.2.1.1; omega) (by omega) hbs hg2 E3.e0 E3.e1 E3.e2 E3.e3
      rw [HX.out.2.2.1.2] at hdc
      have HD := Lib.hid hdc
      have H3 := Lib.hid (And.intro b3 (And.intro b03 hgf))
      clear hdc hbs b3 b03 HH hn2 hnc2 E3
      go_wp2_with fail
      refine HD.out.mono ?_
      rintro e w4 ⟨b4, h4, _⟩
      obtain ⟨bd, o4, c4, rfl, BD, hdl, hb4⟩ := h4 rfl
      clear h4 HD hdl hb4
      unfold dmCells at BD
      obtain ⟨k, hk⟩ : ∃ k, x.c.code = k := ⟨_, rfl⟩
      rw [hk] at BD
      have d0 : w4.cell? ⟨bd, 0, none⟩ = some (.int .u64 (k : Nat)) := BD.cell 0
      have R4 := (HW.out.2.2.1.old H3.out.1).old b4
      have r0 : w4.cell? ⟨dd, 0, none⟩ = some (.string ⟨l.toArray⟩) := R4.cell 0
      have r1 : w4.cell? ⟨dd, 1, none⟩ = some (.int .u64 (x.off : Nat)) := R4.cell 1
      obtain ⟨lk, F, G, hG0, hGk, hlk⟩ := HW.out.1
      have hG := (hG0.old H3.out.1).old b4
      have hB4 := Old.trans H3.out.2.1 b4
      have hkb : k < 9223372036854775808 := by
        have h1 := HX.out.2.1.1.1
        unfold CidL.tidy at h1
        omega
      have hwf : (Lit.int .u64 (k : Int)).wf = true := wf_u64 (by omega)
      have hlo := mapK_lookOk hG.1 Tryz.underlying25 Tryz.underlying234 (zero_recs _) hwf
      have hm4 : m < w4.heap.size := Nat.lt_of_lt_of_le (Nat.lt_of_lt_of_le HW.out.2.2.2.2.1 H3.out.1.size) b4.size
      have hXk : Hid (codK x = (k : Int)) := Lib.hid (by simp [codK, hk])
      have hso : Hid ((l, x.off) = saysE x) := Lib.hid (by simp [saysE, HX.out.2.2.2.1])
      have HG := Lib.hid (And.intro hG (And.intro hGk (And.intro hlk (And.intro hB4 (And.intro hm4 (And.intro hwf hk))))))
      clear hG0 hG hGk hlk hB4 BD R4 b4 hm4 hk hkb
      have hGl : Hid ((G k).length + 1 ≤ 1000000000) := Lib.hid (gOk_len2 HG.out.2.1 (by rw [H.out.2.2.2.2.2.1]; exact hn) k)
      by_cases hmem : (k : Int) ∈ lk
      · obtain ⟨u, hu⟩ := (HG.out.1.1.keys k).1 hmem
        have hdm : decide ((k : Int) ∈ lk) = true := by simp [hmem]
        rw [hu, hdm] at hlo
        simp only [Option.getD_some] at hlo
        have HU := Lib.hid (And.intro hu hmem)
        clear hu hmem hdm
        go_wp2_with (at_builtin; go_must (refine wpList_rec1 w4 rfl _ _ rfl rfl u _ _ rfl l x.off _ rfl rfl (HG.out.1.2.1 k u HU.out.1).1 hGl.out ?_); intro v' w5 hR hT; obtain ⟨w6, hmu, hS6, hK6⟩ := split2_add HG.out.1 HG.out.2.1 (by have := HG.out.2.2.1; omega) (by rw [H.out.2.2.2.2.2.1]; exact hn) HX.out.2.2.2.2 HX.out.1 hXk.out HG.out.2.2.2.2.2.1 (fun y => ⟨.inr, fun h => h.elim (fun e => by rw [e]; exact HU.out.2) id⟩) (by have := HG.out.2.2.2.2.1; omega) HU.out.1 (l, x.off) hso.out hR hT; replace hS6 := Lib.hid (And.intro hS6 (And.intro hK6 hT)); clear hR hT hK6)
        refine ⟨⟨i + 1, by omega, by go_num, hS6.out.1, ((Kp.of_below HG.out.2.2.2.1 []).step hS6.out.2.1 (fun j hj => ?_)).below, Nat.lt_of_lt_of_le HG.out.2.2.2.2.1 hS6.out.2.1.size⟩, by simp [intOf]; omega⟩
        rcases List.mem_cons.1 hj with rfl | hj
        · exact .inr (by rw [H.out.2.2.2.2.2.2.2.2.2.2]; exact Nat.le_refl _)
        · exact .inr (by rw [H.out.2.2.2.2.2.2.2.2.2.2]; exact ((HG.out.1.2.1 k u HU.out.1).2 j hj).1)
      · have hno : F (k : Int) = none := by
          cases hF : F (k : Int) with
          | none => rfl
          | some u => exact absurd ((HG.out.1.1.keys k).2 ⟨u, hF⟩) hmem
        have hdm : decide ((k : Int) ∈ lk) = false := by simp [hmem]
        rw [hno, hdm] at hlo
        simp only [Option.getD_none] at hlo
        have HU := Lib.hid (And.intro hno hmem)
        clear hno hmem hdm
        have hm0 := mk0_rec w4
        obtain ⟨W0, hW0⟩ : ∃ W0, w4.alloc (.cells #[] 65) = W0 := ⟨_, rfl⟩
        obtain ⟨s4, hs4⟩ : ∃ s4, w4.heap.size = s4 := ⟨_, rfl⟩
        have b40 : Below w4.heap.size w4 W0 := by rw [← hW0]; exact Old.alloc (Below.refl _ _) _
        have hv0 : RowV W0 2 (.slice (some ⟨s4, 0, none⟩) 0 0) 0 [] := by rw [← hW0, ← hs4]; exact rowV_mk0 _ _ _
        have hms : m < s4 := by rw [← hs4]; exact HG.out.2.2.2.2.1
        obtain ⟨w5, hmu5, hG5, hK5⟩ := (HG.out.1.old b40).new Tryz.underlying25 Tryz.underlying234 (by have := HG.out.2.2.1; omega) HG.out.2.2.2.2.2.1 HU.out.2 hv0 (by intro j hj; simp [Value.ownBlock] at hj; omega) (fun y u hy j hj hj2 => by
          have h1 := RowV.lt (HG.out.1.2.1 y u hy).1 j hj
          simp [Value.ownBlock] at hj2
          omega)
        have K45 : Kp [m] w4 w5 := (Kp.of_below b40 _).trans hK5
        have r50 : w5.cell? ⟨dd, 0, none⟩ = some (.string ⟨l.toArray⟩) := (K45.cell (p := ⟨dd, 0, none⟩) (World.block_lt_of_cell? w4 _ r0) (by simp; omega)).trans r0
        have r5 : w5.cell? ⟨dd, 1, none⟩ = some (.int .u64 (x.off : Nat)) := (K45.cell (p := ⟨dd, 1, none⟩) (World.block_lt_of_cell? w4 _ r1) (by simp; omega)).trans r1
        have hGk5 : G (k : Int) = [] := HG.out.1.2.2.1 _ HU.out.2
        have hs5 : s4 ≤ w5.heap.size := by rw [← hs4]; exact K45.size
        have hms5 : m < w5.heap.size := Nat.lt_of_lt_of_le HG.out.2.2.2.2.1 K45.size
        have HN := Lib.hid (And.intro hG5 (And.intro hK5 (And.intro K45 (And.intro hGk5 (And.intro hms (And.intro hs5 (And.intro hms5 (And.intro hs4 hv0))))))))
        have hr5 := hG5.2.1 (k : Int) (.slice (some ⟨s4, 0, none⟩) 0 0) (by simp)
        rw [hGk5] at hr5
        have HR5 := Lib.hid hr5.1
        rw [hW0, hs4] at hm0
        clear hG5 hK5 K45 hGk5 hv0 b40 hms hs5 hms5 hr5
        go_wp2_with (at_builtin; go_must (refine wpList_rec1 w5 rfl _ _ rfl rfl (.slice (some ⟨s4, 0, none⟩) 0 0) 0 [] rfl l x.off _ rfl rfl HR5.out (by omega) ?_); intro v' w7 hR hT; obtain ⟨w6, hmu, hS6, hK6⟩ := split2_add HN.out.1 HG.out.2.1 (by have := HG.out.2.2.1; have := keyPut_len lk (k : Int); omega) (by rw [H.out.2.2.2.2.2.1]; exact hn) HX.out.2.2.2.2 HX.out.1 hXk.out HG.out.2.2.2.2.2.1 (fun y => keyPut_mem lk (k : Int) y) (Nat.le_of_lt HN.out.2.2.2.2.2.2.1) (u := .slice (some ⟨s4, 0, none⟩) 0 0) (by simp) (l, x.off) hso.out (by rw [HN.out.2.2.2.1]; exact hR) hT; replace hS6 := Lib.hid (And.intro hS6 (And.intro hK6 hT)); clear hR hT hK6)
        refine ⟨⟨i + 1, by omega, by go_num, hS6.out.1, ((Kp.of_below HG.out.2.2.2.1 []).step (HN.out.2.2.1.step hS6.out.2.1 (fun j hj => ?_)) (fun j hj => ?_)).below, Nat.lt_of_lt_of_le HN.out.2.2.2.2.2.2.1 hS6.out.2.1.size⟩, by simp [intOf]; omega⟩
        · rcases List.mem_cons.1 hj with rfl | hj
          · exact .inl (by simp)
          · simp [Value.ownBlock] at hj
            exact .inr (by have := HN.out.2.2.2.2.2.2.2.1; omega)
        · simp at hj
          exact .inr (by have := H.out.2.2.2.2.2.2.2.2.2.2; omega)
    · have hdd : decide ((i : Int) < (n : Int)) = false := by rw [decide_eq_false_iff_not]; omega
      have hik' : i = n := by omega
      subst hik'
      obtain ⟨lk, F, G, hG, hGk, hlk⟩ := hS
      obtain ⟨w2, hrg, hR2, b2, hs2⟩ := mapK_range hG.1 Tryz.underlying25 Tryz.underlying234
      obtain ⟨r, hr⟩ : ∃ r, wr.heap.size = r := ⟨_, rfl⟩
      rw [hr] at hrg hR2 hs2
      have hnd := hG.1.nodup
      have hFr : ∀ x v, F x = some v → ∀ i ∈ v.ownBlock.toList, m < i ∧ i < r := fun x v hx i hi => by
        have h1 := (hG.2.1 x v hx).2 i hi
        have h2 := RowV.lt (hG.2.1 x v hx).1 i hi
        omega
      have hmbm : mb < m := by have := H.out.2.2.1.lt; have := H.out.2.2.2.2.2.2.2.2.2.2; omega
      have hGk2 := gOk_all hGk H.out.2.2.2.2.2.1
      have hmr : m < r := by omega
      have hB2 := Old.trans hB b2
      have hL2 : Load3 L mb m r (r + 1) lk F G w w2 lk := by
        refine ⟨hR2, fun x hx v hv => RowV.old (hG.2.1 x v hv).1 b2, ⟨[], _, H.out.2.2.1.old hB2, by simp, fun k => ⟨fun h => by simp at h, fun h => absurd h.1 h.2⟩, fun k v h => by simp at h⟩, Kp.of_below hB2 _, by omega⟩
      have HQ := Lib.hid (And.intro hL2 (And.intro hnd (And.intro hFr (And.intro hmbm (And.intro hGk2 (And.intro hmr (And.intro hlk (And.intro hB2 hs2))))))))
      have hwm := H.out.2.2.2.2.2.2.2.2.2.2
      have hpb := World.block_lt_of_cell? w _ H.out.1
      clear hG hGk hR2 b2 hs2 hnd hFr hmbm hGk2 hmr hL2 hB hB2 hmw hlk hr
      go_wp2_with fail
      clear hrg
      go_loopw [13] (fun _ wr => ∃ todo, Load3 L mb m r (r + 1) lk F G w wr todo ∧ todo.Nodup ∧ (∀ x ∈ todo, x ∈ lk)) (fun _ wr => wr.rangeLeft m r)
      case atStart => exact ⟨lk, HQ.out.1, HQ.out.2.1, fun x hx => hx⟩
      case round =>
        obtain ⟨todo, hL, hnd, hsub⟩ := hrel
        rcases hL.1.next Tryz.underlying25 0 with ⟨rfl, hnx⟩ | ⟨x, v, w3, hx, hF, hxw, hnx, hR3, hlt, k3, hs3, hen⟩
        · have HL := Lib.hid hL
          clear hL hnd hsub
          go_wp2_with fail
          exact bodyPost_ret (v := .nilIface) (by simp [results, Tryz.results165, go_sem]) rfl (load3_done HL.out (fun y => HQ.out.2.2.2.2.1.2 y) (by have := HQ.out.2.2.2.2.2.1; omega))
        · have hxl := hsub x hx
          have hr0 := HQ.out.2.2.1 x v hF
          have hGx : G x = (ofKey codK L x).map saysE := by simpa using HQ.out.2.2.2.2.1.1 x
          have hv3 : RecV w3 v ((ofKey codK L x).map saysE) := by
            rw [← hGx]
            exact RowV.kp (hL.2.1 x hx v hF) k3 (fun i hi => by have := hr0 i hi; simp; omega)
          have HN := Lib.hid (newCoded_any w3)
          have HR := Lib.hid (And.intro hL (And.intro hnd (And.intro hsub (And.intro hx (And.intro hF (And.intro hR3 (And.intro hlt (And.intro k3 (And.intro hxl (And.intro hv3 hxw))))))))))
          clear hL hnd hsub hx hF hR3 hlt k3 hxl hv3 hxw hr0 hGx hs3
          go_wp2_with fail
          refine HN.out.mono ?_
          rintro e w4 ⟨p, q, rfl, BP, hMq, hpq, hp4, hq4, b4⟩
          have f1 := BP.frozen 1
          have c1 : w4.cell? ⟨p, 1, none⟩ = some (.int .u64 0) := BP.cell 1
          obtain ⟨w5, hw5⟩ : ∃ w5, w4.setCell ⟨p, 1, none⟩ (.int .u64 x) = w5 := ⟨_, rfl⟩
          have B5 : Blk w5 p 239 #[.map (some q), .int .u64 x] := by rw [← hw5]; exact BP.set_ 1 (.int .u64 x)
          have k45 : Kp [p] w4 w5 := by rw [← hw5]; exact (Kp.refl _ _).setCell (p := ⟨p, 1, none⟩) (.inl (by simp)) _
          have hMq5 := hMq.kp k45 (by simpa using fun e => hpq e.symm)
          have p0 : w5.cell? ⟨p, 0, none⟩ = some (.map (some q)) := B5.cell 0
          have b35 : Below w3.heap.size w3 w5 := ((Kp.of_below b4 []).step k45 (fun i hi => by rw [List.mem_singleton.1 hi]; exact .inr hp4)).below
          obtain ⟨hL, hnd, hsub, hx, hF, hR3, hlt, k3, hxl, hv3, hxw⟩ := HR.out
          have hv5 : RecV w5 v ((ofKey codK L x).map saysE) := RowV.old hv3 b35
          have hK0 := hL.2.2.2.1
          have hB20 := hL.2.2.2.2
          have hk3s := k3.size
          have k05 : Kp [mb] w w5 := (hK0.step k3 (by have := HQ.out.2.2.2.2.2.1; simp; omega)).old b35
          have bw05 : Below w0.heap.size w0 w5 := ((Kp.of_below HE.out.2.1 []).step k05 (fun i hi => by rw [List.mem_singleton.1 hi]; exact .inr HE.out.2.2)).below
          have hml := mwLoad_any p q v (ofKey codK L x) w5 p0 hpq hMq5 hv5 (fun z hz => H.out.2.2.2.2.1 z (List.mem_filter.1 hz).1) (Nat.le_trans (List.length_filter_le _ _) (by rw [H.out.2.2.2.2.2.1]; exact hn)) (HE.out.1.old bw05)
          have HM := Lib.hid (And.intro hml (And.intro B5 (And.intro b35 (And.intro k05 (And.intro hpq (And.intro hp4 (And.intro hq4 (And.intro b4.size k45.size))))))))
          clear BP hMq hpq hp4 hq4 b4 B5 k45 hMq5 p0 b35 hL hnd hsub hx hF hR3 hlt k3 hxl hv3 hxw hv5 hK0 hB20 k05 bw05 hml hk3s HN
          go_wp2_with fail
          clear hw5 f1 c1
          refine HM.out.1.mono ?_
          rintro e w6 ⟨rfl, hOk, k6⟩
          obtain ⟨hml, B5, b35, k05, hpq, hp4, hq4, hs34, hs45⟩ := HM.out
          obtain ⟨hL, hnd, hsub, hx, hF, hR3, hlt, k3, hxl, hv3, hxw⟩ := HR.out
          obtain ⟨_, _, hFr, hmbm, hGk2, hmr, hlkn, hB2w, hs2w⟩ := HQ.out
          have hB20 := hL.2.2.2.2
          have hk3s := k3.size
          have B6 := B5.kp k6 (by simpa using hpq)
          have b36 : Below w3.heap.size w3 w6 := ((Kp.of_below b35 []).step k6 (fun i hi => by rw [List.mem_singleton.1 hi]; exact .inr hq4)).below
          have hCw : CwOk w6.drew (r + 1) L x (.pointer (some ⟨p, 0, none⟩)) := ⟨p, q, rfl, B6.drew, (hOk.mono (by omega)).kp (Kp.refl [] w6).drew (by simp) (by simp), by omega, by omega, hpq⟩
          obtain ⟨w9, hmu, hL9, hMs⟩ := load3_put hL hx hxl hxw hR3 k3 (RowKit.Below.drew b36) hCw hnd hFr hmr hmbm (Nat.lt_succ_self r) hwm (by omega)
          have kAll : Kp [mb] w w6 := k05.step k6 (by simp; omega)
          have pc : w6.cell? ⟨pb, 0, none⟩ = some (.map (some mb)) := (kAll.cell (p := ⟨pb, 0, none⟩) hpb (by simpa using H.out.2.1)).trans H.out.1
          have p1 : w6.cell? ⟨p, 1, none⟩ = some (.int .u64 x) := B6.cell 1
          have HP := Lib.hid (put_any pb mb p x w6 w9 pc p1 hmu)
          have HZ := Lib.hid (And.intro hL9 (And.intro (show w9.rangeLeft m r < _ by rw [hMs]; exact hlt) (And.intro (hnd.erase x) (show ∀ y ∈ todo.erase x, y ∈ lk from fun y hy => hsub y (List.mem_of_mem_erase hy)))))
          clear hml B5 b35 k05 hpq hp4 hq4 hs34 hs45 hL hnd hsub hx hF hR3 hlt k3 hxl hv3 hxw hFr hmbm hGk2 hmr hlkn hB2w hs2w hB20 hk3s B6 b36 hCw hmu hL9 hMs kAll pc p1 hOk k6 HM HR HQ hwm hpb
          go_wp2_with fail
          refine HP.out.mono ?_
          rintro e w10 ⟨rfl, rfl⟩
          go_wp2_with fail
          go_roundw
          case rel => exact ⟨_, HZ.out.1, HZ.out.2.2.1, HZ.out.2.2.2⟩
          case measure => exact HZ.out.2.1
end Go.Proofs.YtcljffldbnoljaaGreatDoor
