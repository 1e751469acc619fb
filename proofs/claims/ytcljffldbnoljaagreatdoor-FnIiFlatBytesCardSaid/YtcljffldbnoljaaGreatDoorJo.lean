/-
  (*index.multiWidthCodedIndex).Marshal, (*index.MultihashIndexSorted).Marshal: the very bytes. Conditions: as each contract says.
-/
import Derived.Test.YtcljffldbnoljaaGreatDoorJJi
import Derived.BigRegion
namespace Go.Proofs.YtcljffldbnoljaaGreatDoor
open Go.RowKit Go.Sort Go.Lib

/-- What the Marshal of one hash function's index comes to. -/
def CmPost (b : Nat) (row : Option Nat) (l : List UInt8) (k : Nat) (L : List EntL) (w : World) (e : Ending) (w' : World) : Prop := ∃ T : List UInt8, MwT L T ∧ T.length ≤ 780004 ∧ WtPost b row l (Lib.leBytes 8 k ++ T) w (.tuple #[.int .u64 (8 + T.length : Nat), .nilIface]) e w'

set_option maxRecDepth 100000 in
set_option maxHeartbeats 8000000 in
theorem codedMarshal_any (b : Nat) (row : Option Nat) (l : List UInt8) (p q B k : Nat) (L : List EntL) (w0 w : World) (hp0 : Blk w0 p 239 #[.map (some q), .int .u64 (k : Nat)]) (hOk : MwOk w0 q B L) (hB0 : Below w0.heap.size w0 w) (hfar : ∀ i ∈ b :: row.toList, w0.heap.size ≤ i) (h : BuS w b row l) (hst : ∀ x ∈ L, x.ok) (hn : L.length ≤ 60) (hne : L ≠ []) (hlim : l.length ≤ 600000000) (hk : k < 18446744073709551616) :
    Calls Tryz.prog 173 #[.pointer (some ⟨p, 0, none⟩), .iface 78 (.pointer (some ⟨b, 0, none⟩))] w (CmPost b row l k L w) := by
  have c1 : w.cell? ⟨p, 1, none⟩ = some (.int .u64 (k : Nat)) := (hp0.old hB0).cell 1
  have HA := Lib.hid (zzWrite64_any b row l k w h hk (by omega))
  have H := Lib.hid (And.intro hp0 (And.intro hOk (And.intro hB0 (And.intro hfar (And.intro hst (And.intro hn (And.intro hne hlim)))))))
  clear hp0 hOk hB0 hfar h hst hn hne hlim hk
  go_enter Tryz.func173, Tryz.ntmps173
  go_wp2_with fail
  clear c1
  refine HA.out.mono ?_
  rintro e w1 ⟨rfl, r1, hB1, hT1⟩
  obtain ⟨hp0, hOk, hB0, hfar, hst, hn, hne, hlim⟩ := H.out
  have HM := Lib.hid (mwMarshal_any b r1 _ p q B L w0 w1 (hp0.cell 0) hOk (hT1.below hB0 hfar) (hT1.far hB0 hfar) hB1 hst hn hne (by rw [List.length_append, Lib.leBytes_length]; omega))
  have HT := Lib.hid hT1
  clear hp0 hOk hB0 hfar hst hn hne hlim hB1 hT1 HA
  go_wp2_with fail
  refine HM.out.mono ?_
  rintro e w2 ⟨T, hMT, hTl, rfl, r2, hB2, hT2⟩
  have H2 := Lib.hid (And.intro hMT (And.intro hB2 (HT.out.trans hT2)))
  have hw8 : IntKind.u64.wrap ((8 : Int) + (T.length : Int)) = (8 : Int) + (T.length : Int) := by rw [IntKind.wrap_u64]; omega
  clear hMT hB2 hT2 HM
  go_wp2_with fail
  refine bodyPost_ret (v := .tuple #[.int .u64 (8 + T.length : Nat), .nilIface]) (by simp [results, Tryz.results173, go_sem]) rfl ⟨T, H2.out.1, hTl, rfl, r2, ?_, H2.out.2.2⟩
  rw [← List.append_assoc]
  exact H2.out.2.1

/-- The codes, sorted. -/
def CsPost (L : List EntL) (lk : List Int) (w : World) (e : Ending) (w' : World) : Prop := ∃ (g c N : Nat) (D : Array Nat), e = .returned (.slice (some ⟨g, 0, none⟩) N c) ∧ U64 w' g D ∧ D.size = N ∧ N ≤ c ∧ lk.length = N ∧ KeysS codK L (D.toList.map Int.ofNat) ∧ (D.toList.map Int.ofNat).Perm lk ∧ w.heap.size ≤ g ∧ g < w'.heap.size ∧ Below w.heap.size w w'

set_option maxRecDepth 100000 in
set_option maxHeartbeats 16000000 in
theorem codesSorted_any (pb mb : Nat) (L : List EntL) (lk : List Int) (F : Int → Option Value) (w : World) (hp : w.cell? ⟨pb, 0, none⟩ = some (.map (some mb))) (hM : MapK 25 .u64 w mb lk F) (hkeys : ∀ k, k ∈ lk ↔ ∃ x ∈ L, codK x = k) (hn : L.length ≤ 60) (hne : L ≠ []) :
    Calls Tryz.prog 172 #[.pointer (some ⟨pb, 0, none⟩)] w (CsPost L lk w) := by
  have hpb := World.block_lt_of_cell? w _ hp
  have hmb := hM.lt
  obtain ⟨N, hN⟩ : ∃ N, lk.length = N := ⟨_, rfl⟩
  have hN60 : N ≤ 60 := by rw [← hN]; exact Nat.le_trans (keys_len hkeys hM.nodup) hn
  have hlkne := keys_ne hkeys hne
  have hlen := fun ty => mapK_len hM Tryz.underlying135 ty
  rw [hN] at hlen
  have hmk := mk_u64s N (by omega) w
  obtain ⟨W2, hW2⟩ : ∃ W2, w.alloc (.cells (List.replicate N (.int .u64 0)).toArray 25) = W2 := ⟨_, rfl⟩
  obtain ⟨gs, hgs⟩ : ∃ gs, w.heap.size = gs := ⟨_, rfl⟩
  have b12 : Below w.heap.size w W2 := by rw [← hW2]; exact Old.alloc (Below.refl _ _) _
  have hO2 : OwnN .u64 W2 (.slice (some ⟨gs, 0, none⟩) 0 N) [] := by
    rw [← hW2, ← hgs]
    exact rowV_mk w 25 N (.int .u64 0) (by omega)
  have c2 : W2.cell? ⟨pb, 0, none⟩ = some (.map (some mb)) := (b12.cell (p := ⟨pb, 0, none⟩) hpb).trans hp
  obtain ⟨w3, hrg, hR3, b23, hs3⟩ := mapK_range (hM.old b12) Tryz.underlying25 Tryz.underlying135
  obtain ⟨rr, hrr⟩ : ∃ rr, W2.heap.size = rr := ⟨_, rfl⟩
  rw [hrr] at hrg hR3 hs3
  rw [hW2, hgs] at hmk
  have b13 := Old.trans b12 b23
  have hgsr : gs < rr := by rw [← hrr, ← hgs, ← hW2]; simp
  have hmbg : mb < gs := by omega
  have H := Lib.hid (And.intro hM (And.intro hkeys (And.intro hlkne hN)))
  have H1 := Lib.hid (And.intro b13 (And.intro hgs (And.intro hgsr (And.intro hmbg (And.intro hR3 (And.intro hO2 b23))))))
  clear hM hkeys hlkne hN hpb hmb b12 hO2 hR3 b23 b13 hgsr hmbg hs3 hgs hrr hne
  go_enter Tryz.func172, Tryz.ntmps172
  go_wp2_with fail
  clear hlen hmk hrg c2 hW2 hp
  go_loopw [3] (fun v8 wr => ∃ (todo ls : List Int), MapR 25 .u64 wr mb rr F todo ∧ OwnN .u64 wr v8 ls ∧ (ls ++ todo).Perm lk ∧ Below w.heap.size w wr ∧ (∀ i ∈ v8.ownBlock.toList, gs ≤ i ∧ i ≠ rr) ∧ rr < wr.heap.size) (fun _ wr => wr.rangeLeft mb rr)
  case atStart =>
    obtain ⟨b13, hgs, hgsr, hmbg, hR3, hO2, b23⟩ := H1.out
    refine ⟨lk, [], hR3, hO2.old b23, by simp, b13, fun i hi => ?_, hR3.lt.1⟩
    simp [Value.ownBlock] at hi
    omega
  case round =>
    obtain ⟨todo, ls, hR, hO, hP, hB, hg, hrw⟩ := hrel
    rcases hR.next Tryz.underlying25 0 with ⟨rfl, hnx⟩ | ⟨x, v, w4, hx, hF, hxw, hnx, hR4, hlt, k4, hs4, hen⟩
    · obtain ⟨hM, hkeys, hlkne, hN⟩ := H.out
      obtain ⟨b13, hgs, hgsr, hmbg, hR3, hO2, b23⟩ := H1.out
      rw [List.append_nil] at hP
      have hlsne : ls ≠ [] := fun e => hlkne (List.eq_nil_of_length_eq_zero (by rw [← hP.length_eq, e]; rfl))
      have hlsN : ls.length = N := by rw [hP.length_eq, hN]
      have hpos : ∀ x ∈ ls, 0 ≤ x := fun x hx => by
        obtain ⟨y, hy, e⟩ := (hkeys x).1 (hP.mem_iff.1 hx)
        have e2 : (y.c.code : Int) = x := e
        omega
      obtain ⟨gg, cc, D, hv8, hcc, hggw, hDs, hDl, hDc⟩ := ownN_sort hO hlsne hpos
      rw [hlsN] at hcc hDs hv8
      subst hv8
      have hg2 := hg gg (by simp [Value.ownBlock])
      have hso := sort_u64 gg cc N hcc (by omega) wr D hggw (fun t ht => hDc t ht) hDs
      have HS := Lib.hid hso
      have HR := Lib.hid (And.intro hP (And.intro hB (And.intro hg2 (And.intro hDl (And.intro hDs (And.intro hggw hcc))))))
      clear hM hkeys hlkne hN b13 hgs hgsr hmbg hR3 hO2 b23 hR hO hP hB hg hrw hlsne hlsN hpos hcc hggw hDs hDl hDc hg2 hso
      go_wp2_with fail
      clear hnx
      refine HS.out.mono ?_
      rintro e w6 ⟨rfl, ⟨D', hU, hPm, hSo⟩, k6⟩
      have HU := Lib.hid (And.intro hU (And.intro hPm (And.intro hSo k6)))
      clear hU hPm hSo k6
      go_wp2_with fail
      refine bodyPost_ret (v := .slice (some ⟨gg, 0, none⟩) N cc) (by simp [results, Tryz.results172, go_sem]) rfl ?_
      obtain ⟨hM, hkeys, hlkne, hN⟩ := H.out
      obtain ⟨b13, hgs, hgsr, hmbg, hR3, hO2, b23⟩ := H1.out
      obtain ⟨hP, hB, hg2, hDl, hDs, hggw, hcc⟩ := HR.out
      obtain ⟨hU, hPm, hSo, k6⟩ := HU.out
      have hD's : D'.size = N := hPm.1.trans hDs
      have hPl : D'.toList.Perm D.toList := permIn_list hPm hDs
      have hSl := sortedIn_list hSo hD's
      have hK := keysS_sorted hkeys hM.nodup hP hDl hPl hSl
      exact ⟨gg, cc, N, D', rfl, hU, hD's, hcc, hN, hK, (hPl.map Int.ofNat).trans (hDl ▸ hP), by omega, Nat.lt_of_lt_of_le hggw k6.size, ((Kp.of_below hB []).step k6 (fun i hi => by rw [List.mem_singleton.1 hi]; exact .inr (by omega))).below⟩
    · have hmw : Hid (mb < gs ∧ w.heap.size = gs) := Lib.hid ⟨H1.out.2.2.2.1, H1.out.2.1⟩
      have hll : ls.length + 1 ≤ 1000000000 := by
        have h1 := hP.length_eq
        rw [List.length_append] at h1
        have h2 := H.out.2.2.2
        omega
      have hO4 : OwnN .u64 w4 u3 ls := RowV.kp hO k4 (fun i hi => by have := hg i hi; simp; omega)
      have HR := Lib.hid (And.intro hP (And.intro hB (And.intro hg (And.intro hrw (And.intro hR4 (And.intro hlt (And.intro k4 (And.intro hs4 (And.intro hx hO4)))))))))
      clear hR hO hP hB hg hrw hR4 hlt k4 hs4 hx hO4 hF hxw
      go_wp2_with (at_builtin; go_must (refine wpList_u641 w4 rfl _ _ rfl rfl u3 ls rfl x _ rfl rfl HR.out.2.2.2.2.2.2.2.2.2 hll ?_); intro v' w5 hO5 hT5; replace hO5 := Lib.hid (And.intro hO5 hT5); clear hT5)
      all_goals go_roundw
      case rel =>
        obtain ⟨hP, hB, hg, hrw, hR4, hlt, k4, hs4, hx, hO4⟩ := HR.out
        obtain ⟨hO5, hT5⟩ := hO5.out
        have hr4 : rr < w4.heap.size := by omega
        refine ⟨todo.erase x, ls ++ [x], hR4.kp hT5.1 (fun e => by have := (hg mb e).1; have := hmw.out; omega) (fun e => (hg rr e).2 rfl), hO5, ?_, ((Kp.of_below hB []).step (l' := rr :: u3.ownBlock.toList) ((k4.weaken (by simp)).trans (hT5.1.weaken (fun i hi => .inl (by simp [hi])))) (fun i hi => ?_)).below, fun i hi => ?_, Nat.lt_of_lt_of_le hr4 hT5.1.size⟩
        · rw [List.append_assoc]
          exact (List.Perm.append_left ls (List.perm_cons_erase hx).symm).trans hP
        · have h1 := H1.out.2.2.1
          have h2 := hmw.out.2
          rcases List.mem_cons.1 hi with rfl | hi
          · exact .inr (by omega)
          · exact .inr (by have := (hg i hi).1; omega)
        · rcases hT5.2 i hi with h1 | h1
          · exact hg i h1
          · have h2 := H1.out.2.2.1
            omega
      case measure =>
        obtain ⟨hP, hB, hg, hrw, hR4, hlt, k4, hs4, hx, hO4⟩ := HR.out
        obtain ⟨hO5, hT5⟩ := hO5.out
        rw [hR4.kp_left hT5.1 (fun e => by have := (hg mb e).1; have := hmw.out; omega) (fun e => (hg rr e).2 rfl)]
        exact hlt

set_option maxRecDepth 100000 in
theorem zero_cw (W : World) : (zeroValue 236).run Tryz.prog W = .ok (.pointer none) W := by kernel_rfl
/-- What Marshal comes to. -/
def HmPost (b : Nat) (row : Option Nat) (l : List UInt8) (L : List EntL) (w : World) (e : Ending) (w' : World) : Prop := ∃ (T : List UInt8) (z : Nat), MhT L T ∧ T.length ≤ 46800804 ∧ z ≤ 46800804 ∧ WtPost b row l T w (.tuple #[.int .u64 (z : Nat), .nilIface]) e w'

set_option maxRecDepth 100000 in
set_option maxHeartbeats 16000000 in
theorem mhMarshal_any (b : Nat) (row : Option Nat) (l : List UInt8) (pb mb B : Nat) (L : List EntL) (w0 w : World) (hp0 : w0.cell? ⟨pb, 0, none⟩ = some (.map (some mb))) (hOk : MhOk w0 mb B L) (hB0 : Below w0.heap.size w0 w) (hfar : ∀ i ∈ b :: row.toList, w0.heap.size ≤ i) (h : BuS w b row l) (hst : ∀ x ∈ L, x.ok) (hn : L.length ≤ 60) (hne : L ≠ []) (hlim : l.length ≤ 500000000) :
    Calls Tryz.prog 166 #[.pointer (some ⟨pb, 0, none⟩), .iface 78 (.pointer (some ⟨b, 0, none⟩))] w (HmPost b row l L w) := by
  obtain ⟨lk, F, hM, hkeys, hf⟩ := hOk
  have hpb := World.block_lt_of_cell? w0 _ hp0
  obtain ⟨N, hN⟩ : ∃ N, lk.length = N := ⟨_, rfl⟩
  have hN60 : N ≤ 60 := by rw [← hN]; exact Nat.le_trans (keys_len hkeys hM.nodup) hn
  have c0 : w.cell? ⟨pb, 0, none⟩ = some (.map (some mb)) := (hB0.cell (p := ⟨pb, 0, none⟩) hpb).trans hp0
  have hlen := fun ty => mapK_len (hM.old hB0) Tryz.underlying135 ty
  rw [hN] at hlen
  have hwN : IntKind.u32.wrap (N : Int) = (N : Int) := by rw [IntKind.wrap_u32]; omega
  have HA := Lib.hid (zzWrite32_any b row l N w h (by omega) (by omega))
  have H := Lib.hid (And.intro hp0 (And.intro hM (And.intro hkeys (And.intro hf (And.intro hB0 (And.intro hfar (And.intro hst (And.intro hn (And.intro hlim (And.intro hne (And.intro hN hpb)))))))))))
  clear hp0 hM hkeys hf hB0 hfar h hst hlim hne hN hpb
  go_enter Tryz.func166, Tryz.ntmps166
  go_wp2_with fail
  clear hlen c0 hwN
  refine HA.out.mono ?_
  rintro e w1 ⟨rfl, r1, hB1, hT1⟩
  obtain ⟨hp0, hM, hkeys, hf, hB0, hfar, hst, hn', hlim, hne, hN, hpb⟩ := H.out
  have hB01 := hT1.below hB0 hfar
  have hfar1 := hT1.far hB0 hfar
  have c1 : w1.cell? ⟨pb, 0, none⟩ = some (.map (some mb)) := (hB01.cell (p := ⟨pb, 0, none⟩) hpb).trans hp0
  have HC := Lib.hid (codesSorted_any pb mb L lk F w1 c1 (hM.old hB01) hkeys hn' hne)
  have H1 := Lib.hid (And.intro hB1 (And.intro hT1 (And.intro hB01 hfar1)))
  clear hp0 hM hkeys hf hB0 hfar hst hn' hlim hne hN hpb hB1 hT1 hB01 hfar1 HA c1
  go_wp2_with fail
  refine HC.out.mono ?_
  rintro e w6 ⟨gg, cc, N', D', rfl, hU, hD's, hcc, hNN, hK, hPl, hg1, hggw, b16⟩
  have hNe : N' = N := hNN.symm.trans H.out.2.2.2.2.2.2.2.2.2.2.1
  subst hNe
  have hggr : gg ∉ b :: r1.toList := fun hi => by
    have hB1 := H1.out.1
    rcases List.mem_cons.1 hi with e | hi
    · have := hB1.lt; omega
    · have := (hB1.rowlt gg (by simpa using hi)).1; omega
  have hws : (D'.toList.map Int.ofNat).length = N' := by simp [hD's]
  have H6 := Lib.hid (And.intro hU (And.intro hD's (And.intro hK (And.intro b16 (And.intro hggr (And.intro hggw (And.intro hPl hws)))))))
  have H7 := Lib.hid (H1.out.1.old b16)
  clear hU hD's hK b16 hggr hws hPl hg1 hggw hNN HC
  go_wp2_with fail
  go_loopw [8, 28] (fun v8 v28 wr => ∃ (i z : Nat) (r : Option Nat) (t u : List UInt8), i ≤ N' ∧ v28 = .int .i64 i ∧ v8 = .int .u64 (z : Nat) ∧ BuS wr b r (l ++ t) ∧ BT b w6 wr r1 r ∧ Hid (t = Lib.leBytes 4 N' ++ u ∧ McT L ((D'.toList.map Int.ofNat).take i) u) ∧ t.length ≤ 4 + i * 780012 ∧ z ≤ 4 + i * 780012) (fun _ v28 _ => N' - (intOf v28).toNat)
  case atStart => exact ⟨0, 4, r1, Lib.leBytes 4 N', [], Nat.zero_le _, rfl, rfl, H7.out, BT.refl _ _ _, Lib.hid ⟨by simp, by rw [List.take_zero]; exact .nil⟩, by rw [Lib.leBytes_length]; omega, by omega⟩
  case round =>
    obtain ⟨i, z, r, t, u, hi, rfl, rfl, hBu, hT, hQ, htl, hzl⟩ := hrel
    obtain ⟨hp0, hM, hkeys, hf, hB0, hfar, hst, hn', hlim, hne, hN, hpb⟩ := H.out
    obtain ⟨hB1, hT1, hB01, hfar1⟩ := H1.out
    obtain ⟨hU, hD's, hK, b16, hggr, hggw, hPl, hws⟩ := H6.out
    have htl2 := Nat.mul_le_mul_right 780012 hi
    have hB06 : Below w0.heap.size w0 w6 := ((Kp.of_below hB01 []).old b16).below
    have hB0r := hT.below hB06 hfar1
    by_cases hik : i < N'
    · have hdd : decide ((i : Int) < (N' : Int)) = true := by rw [decide_eq_true_eq]; omega
      have hiD : i < D'.size := by rw [hD's]; exact hik
      have hc := (hU i hiD).1
      rw [Nat.zero_add] at hc
      obtain ⟨X, hX⟩ : ∃ X, D'[i]! = X := ⟨_, rfl⟩
      rw [hX] at hc
      have hcr : wr.cell? ⟨gg, i, none⟩ = some (.int .u64 (X : Nat)) := (hT.1.cell (p := ⟨gg, i, none⟩) hggw hggr).trans hc
      have hXm : D'.toList[i]'(by simpa using hiD) = X := by rw [← hX, getElem!_pos D' i hiD]; simp
      have hXlk : (X : Int) ∈ lk := by
        rw [← hPl.mem_iff]
        exact List.mem_map.2 ⟨X, by rw [← hXm]; exact List.getElem_mem _, rfl⟩
      obtain ⟨v, hv⟩ := (hM.keys X).1 hXlk
      obtain ⟨p, q, rfl, hBp, hMq, hBp2, hBq2, hpq⟩ := hf X v hv
      obtain ⟨y, hy, hye⟩ := (hkeys X).1 hXlk
      have hye2 : (y.c.code : Int) = X := hye
      have hX64 : X < 9223372036854775808 := by
        have h1 := (hst y hy).1.1
        unfold CidL.tidy at h1
        omega
      have hfne : ofKey codK L X ≠ [] := List.ne_nil_of_mem (List.mem_filter.2 ⟨hy, by simp [hye2]⟩)
      have hlk := mapK_look (hM.old hB0r) Tryz.underlying25 Tryz.underlying135 (zero_cw wr) (wf_u64 (x := (X : Int)) (by omega))
      rw [hv] at hlk
      simp only [Option.getD_some] at hlk
      have cr : wr.cell? ⟨pb, 0, none⟩ = some (.map (some mb)) := (hB0r.cell (p := ⟨pb, 0, none⟩) hpb).trans hp0
      have HSw := Lib.hid (codedMarshal_any b r (l ++ t) p q B X (ofKey codK L X) w0 wr hBp hMq hB0r (hT.far hB06 hfar1) hBu (fun x hx => hst x (List.mem_filter.1 hx).1) (Nat.le_trans (List.length_filter_le _ _) hn') hfne (by rw [List.length_append]; omega) (by omega))
      have htk : (D'.toList.map Int.ofNat).take (i + 1) = (D'.toList.map Int.ofNat).take i ++ [(X : Int)] := by
        rw [List.take_succ_eq_append_getElem (by rw [hws]; exact hik), List.getElem_map, hXm]; rfl
      have HT := Lib.hid (And.intro hT (And.intro hQ.out (And.intro htk htl)))
      have hiI : (i : Int) < (N' : Int) := by omega
      clear hp0 hM hkeys hf hB0 hfar hst hn' hlim hne hN hpb hB1 hT1 hB01 hfar1 hU hD's hK b16 hggr hggw hPl hws hB06 hB0r hc hX hXm hXlk hv hBp hMq hBp2 hBq2 hpq hy hye hye2 hX64 hfne htk hBu hT hQ htl
      go_wp2_with fail
      clear hcr hlk cr
      refine HSw.out.mono ?_
      rintro e w8 ⟨T8, hMT8, hTl8, rfl, r8, hB8, hT8⟩
      have H8 := Lib.hid (And.intro hB8 (And.intro (HT.out.1.trans hT8) hMT8))
      have hwadd : IntKind.u64.wrap ((z : Int) + (8 + (T8.length : Int))) = (z : Int) + (8 + (T8.length : Int)) := by rw [IntKind.wrap_u64]; omega
      clear hB8 hT8 hMT8 HSw
      go_wp2_with fail
      go_roundw
      case rel =>
        refine ⟨i + 1, z + (8 + T8.length), r8, t ++ (Lib.leBytes 8 X ++ T8), u ++ (Lib.leBytes 8 X ++ T8), by omega, by go_num, by simp, ?_, H8.out.2.1, Lib.hid ⟨?_, ?_⟩, ?_, ?_⟩
        · rw [← List.append_assoc]; exact H8.out.1
        · rw [HT.out.2.1.1, List.append_assoc]
        · rw [HT.out.2.2.1]
          have := McT.snoc HT.out.2.1.2 H8.out.2.2
          rwa [Int.toNat_natCast] at this
        · simp only [List.length_append, Lib.leBytes_length]
          have h1 := HT.out.2.2.2
          omega
        · omega
      case measure => simp [intOf]; omega
    · have hdd : decide ((i : Int) < (N' : Int)) = false := by rw [decide_eq_false_iff_not]; omega
      have hii : N' = i := by omega
      have hmt : MhT L t := ⟨_, u, hK, by have := hQ.out.2; rwa [List.take_of_length_le (by rw [hws]; omega)] at this, by rw [hws]; exact hQ.out.1⟩
      have HF := Lib.hid (And.intro hmt (And.intro hBu ((hT1.old b16).trans hT)))
      have htb : t.length ≤ 46800804 ∧ z ≤ 46800804 := by omega
      clear hp0 hM hkeys hf hB0 hfar hst hn' hlim hne hN hpb hB1 hT1 hB01 hfar1 hU hD's hK b16 hggr hggw hPl hws hB06 hB0r hmt hBu hT hQ htl htl2 hii hzl
      go_wp2_with fail
      exact bodyPost_ret (v := .tuple #[.int .u64 (z : Nat), .nilIface]) (by simp [results, Tryz.results166, go_sem]) rfl ⟨t, z, HF.out.1, htb.1, htb.2, rfl, _, HF.out.2.1, HF.out.2.2⟩
end Go.Proofs.YtcljffldbnoljaaGreatDoor
