/-
  (*index.multiWidthIndex).Load: its walk. Conditions: as each contract says.
-/
import Derived.Test.YtcljffldbnoljaaGreatDoorJJh
import Derived.BigRegion
import Derived.Deep.Cut
import Derived.StillTailTactics
namespace Go.Proofs.YtcljffldbnoljaaGreatDoor
open Go.RowKit Go.Sort Go.Lib

theorem wf_u32 {x : Int} (h : 0 ≤ x ∧ x < 4294967296) : (Lit.int .u32 x).wf = true := by
  have h1 : IntKind.u32.min = 0 := by decide
  have h2 : IntKind.u32.max = 4294967295 := by decide
  simp [Lit.wf, h1, h2]; omega
/-- An entry that an index can be loaded with. -/
def EntL.ok (x : EntL) : Prop := x.c.st ∧ x.off < 18446744073709551616
/-- The first i records are told apart by their digests' lengths. -/
def Split1 (L : List EntL) (w : World) (m base i : Nat) : Prop := ∃ lk F G, Grp 3 .i64 2 drC w m base lk F G ∧ DOk w m base F G ∧ GOk lenK sayR sayD L i lk G ∧ lk.length ≤ i
theorem Split1.old {L : List EntL} {w w' : World} {m base i : Nat} (h : Split1 L w m base i) (b : Below w.heap.size w w') : Split1 L w' m base i := by
  obtain ⟨lk, F, G, h1, h2, h3⟩ := h
  exact ⟨lk, F, G, h1.old b, h2.old b, h3⟩

theorem split1_add {L : List EntL} {w4 w5 : World} {m i : Nat} {l l' : List Int} {F : Int → Option Value} {G : Int → List DRec} (hG : Grp 3 .i64 2 drC w4 m m l' F G) (hD : DOk w4 m m F G) (hGk : GOk lenK sayR sayD L i l G) (hl' : l'.length ≤ i + 1) (hn : L.length ≤ 60) (hi : i < L.length) {x : EntL} (hx : L[i] = x) {X : Int} (hX : lenK x = X) (hwf : (Lit.int .i64 X).wf = true)
    (hl : ∀ y, y ∈ l' ↔ y = X ∨ y ∈ l) (hm : m ≤ w4.heap.size) {u v' : Value} (hu : F X = some u) (r : DRec) (hr : Bs w4 r.g r.o r.d ∧ m ≤ r.g ∧ r.g < w4.heap.size ∧ r.g ≠ m ∧ r.d.length ≤ r.c ∧ r.d.length ≤ 1000 ∧ r.off < 18446744073709551616 ∧ ∀ z v, F z = some v → r.g ∉ v.ownBlock.toList) (hs : sayR r = sayD x)
    (hR : RowV w5 2 v' ((G X).length + 1) ((G X).flatMap drC ++ drC r)) (hT : AppT w4 w5 u v') :
    ∃ w6, (Instr.mapUpdate 243 (.map (some m)) (.int .i64 X) v').run Tryz.prog w5 = .ok () w6 ∧ Split1 L w6 m m (i + 1) ∧ Kp (m :: u.ownBlock.toList) w4 w6 := by
  obtain ⟨w6, hrun, hG6, hK6⟩ := hG.add Tryz.underlying3 Tryz.underlying243 (by omega) hm hwf hu r hR hT
  exact ⟨w6, hrun, ⟨l', _, _, hG6, hD.add hu hT hK6 r hr, hGk.step hi hx hX r hs l' hl, hl'⟩, hK6⟩
theorem gOk_len {L : List EntL} {i : Nat} {l : List Int} {G : Int → List DRec} (h : GOk lenK sayR sayD L i l G) (hn : L.length ≤ 60) (y : Int) : (G y).length + 1 ≤ 1000000000 := by
  have h1 := congrArg List.length (h.1 y)
  rw [List.length_map, List.length_map] at h1
  have h2 := List.length_filter_le (fun x => decide (lenK x = y)) (L.take i)
  have h3 : (L.take i).length ≤ L.length := by rw [List.length_take]; exact Nat.min_le_right _ _
  unfold ofKey at h1
  omega
/-- append(u, r) at the operation. -/
theorem wpList_dr1 {ops : Array Oper} {rest : List Oper} {o : Oper} {a : Act} {Q : Exit → Act → World → Prop} (w : World) (hgd : o.guard = none) (s x : Operand)
    (ho : o.op = .call { callee := .builtin .append, args := #[s, x], argTypes := #[244, 244] }) (hot : o.type = 244)
    (v : Value) (n : Nat) (cs : List Value) (hs : a.eval s = v) (r : DRec) (hx : a.eval x = .slice (some ⟨w.heap.size, 0, none⟩) 1 1) (h : RowV w 2 v n cs) (hn : n + 1 ≤ 1000000000)
    (K : ∀ v' w', RowV w' 2 v' (n + 1) (cs ++ drC r) → AppT w w' v v' → wpList Tryz.prog ops Q rest (a.put o.dst v') w') : wpList Tryz.prog ops Q (o :: rest) a (w.alloc (.cells #[.slice (some ⟨r.g, r.o, none⟩) r.d.length r.c, .int .u64 (r.off : Nat)] 247)) := by
  obtain ⟨i0, h1, h2, h3, h4⟩ := drecT
  exact wpList_lit w hgd s x 244 247 cs (drC r) ho hot i0 _ 2 32 Tryz.underlying244 h1 h2 h3 h4 rfl (by decide) v n hs h hx rfl (drC_one r) hn (by decide) K

set_option maxRecDepth 100000 in
set_option maxHeartbeats 8000000 in
theorem mwLoad_any (pb mb : Nat) (v : Value) (L : List EntL) (w : World) (hp : w.cell? ⟨pb, 0, none⟩ = some (.map (some mb))) (hpm : pb ≠ mb) (hM : MapK 172 .u32 w mb [] (fun _ => none)) (hv : RecV w v (L.map saysE)) (hst : ∀ x ∈ L, x.ok) (hn : L.length ≤ 60) (E : E4 w) :
    Calls Tryz.prog 169 #[.pointer (some ⟨pb, 0, none⟩), v] w (MlPost mb L w) := by
  obtain ⟨b, c, rfl⟩ := recV_form hv
  rw [List.length_map] at hv ⊢
  obtain ⟨n, hnl⟩ : ∃ n, L.length = n := ⟨_, rfl⟩
  rw [hnl] at hv hn ⊢
  have hmm := @run_makeMap Tryz.prog
  obtain ⟨w1, hw1⟩ : ∃ w1, w.alloc (.map #[] 0) = w1 := ⟨_, rfl⟩
  obtain ⟨m, hm⟩ : ∃ m, w.heap.size = m := ⟨_, rfl⟩
  have b1 : Below w.heap.size w w1 := by rw [← hw1]; exact Old.alloc (Below.refl _ _) _
  have hS : Split1 L w1 m m 0 := by rw [← hw1, ← hm]; exact ⟨[], _, _, grp_made _ _, fun y r hr => by simp at hr, gOk_nil _ _ _ _, Nat.le_refl _⟩
  have hs1 : w1.heap.size = m + 1 := by rw [← hw1, ← hm]; simp
  have H := Lib.hid (And.intro hp (And.intro hpm (And.intro hM (And.intro hv (And.intro hst (And.intro hnl (And.intro E (And.intro b1 (And.intro hS (And.intro hs1 hm))))))))))
  clear hp hpm hM hv hst hnl E b1 hS hs1
  go_enter Tryz.func169, Tryz.ntmps169
  go_wp2_with fail
  clear hw1 hm
  go_loopw [23] (fun v23 wr => ∃ (i : Nat), i ≤ n ∧ v23 = .int .i64 i ∧ Split1 L wr m m i ∧ Below w.heap.size w wr ∧ m < wr.heap.size) (fun v23 _ => n - (intOf v23).toNat)
  case atStart => exact ⟨0, Nat.zero_le _, rfl, H.out.2.2.2.2.2.2.2.2.1, H.out.2.2.2.2.2.2.2.1, by have := H.out.2.2.2.2.2.2.2.2.2.1; omega⟩
  case round =>
    obtain ⟨i, hi, rfl, hS, hB, hmw⟩ := hrel
    by_cases hik : i < n
    · have hdd : decide ((i : Int) < (n : Int)) = true := by rw [decide_eq_true_eq]; omega
      have hiL : i < L.length := by rw [H.out.2.2.2.2.2.1]; exact hik
      obtain ⟨x, hxL⟩ : ∃ x, L[i] = x := ⟨_, rfl⟩
      have hRv : RecV wr (.slice b n c) (L.map saysE) := H.out.2.2.2.1.old hB
      have hat := recV_at hRv (i := i) (by rw [List.length_map]; exact hiL)
      rw [List.getElem_map, hxL] at hat
      obtain ⟨g, rfl, -, -, hgw, x0, x1⟩ := hat
      simp only [saysE] at x0 x1
      have hok : x.ok := H.out.2.2.2.2.1 x (by rw [← hxL]; exact List.getElem_mem hiL)
      obtain ⟨l, hl⟩ : ∃ l, x.c.wr = l := ⟨_, rfl⟩
      rw [hl] at x0
      obtain ⟨W, hW⟩ : ∃ W, wr.alloc (.cells #[.string ⟨l.toArray⟩, .int .u64 (x.off : Nat)] 65) = W := ⟨_, rfl⟩
      obtain ⟨dd, hdd'⟩ : ∃ dd, wr.heap.size = dd := ⟨_, rfl⟩
      have bW : Below wr.heap.size wr W := by rw [← hW]; exact Old.alloc (Below.refl _ _) _
      have RW : Blk W dd 65 #[.string ⟨l.toArray⟩, .int .u64 (x.off : Nat)] := by rw [← hW, ← hdd']; exact Blk.new _ _ _
      have a0 : W.cell? ⟨dd, 0, none⟩ = some (.string ⟨l.toArray⟩) := RW.cell 0
      have EW := H.out.2.2.2.2.2.2.1.old (Old.trans hB bW)
      have hd200 := hok.1.2.2
      have hw := wr_len3 hok.1.1 (by omega)
      rw [hl] at hw
      have hmh := mhWr_len hok.1.1 (by omega)
      have HH := Lib.hid (cidHash_fresh x.c l W hl.symm hok.1.1 (by omega) (by omega) hw.2 EW.e0 EW.e1 EW.e2)
      have HX := Lib.hid (And.intro hxL (And.intro hok (And.intro hmh (And.intro hl hiL))))
      have HW := Lib.hid (And.intro (hS.old bW) (And.intro (Old.trans hB bW) (And.intro RW (And.intro hdd' (And.intro (Nat.lt_of_lt_of_le hmw bW.size) bW.size)))))
      have hmd : m < dd := by rw [← hdd']; exact hmw
      have hiI : (i : Int) < (n : Int) := by omega
      clear hS hB hRv RW EW hd200 hw hmh hok hxL hl hmw bW
      go_wp2_with fail
      clear hW a0 x0 x1
      refine HH.out.mono ?_
      rintro e w3 ⟨g2, o2, n2, c2, rfl, hn2, hnc2, hgf, hg2, hbs, b3⟩
      have b03 := Old.trans HW.out.2.1 b3
      have E3 := H.out.2.2.2.2.2.2.1.old b03
      have hdc := mhDecode_any g2 o2 n2 c2 (mhWr x.c.code x.c.digest) w3 hn2 (by have := HX.out.2.2.1.1; omega) (by omega) hbs hg2 E3.e0 E3.e1 E3.e2 E3.e3
      rw [HX.out.2.2.1.2] at hdc
      have HD := Lib.hid hdc
      have H3 := Lib.hid (And.intro b3 (And.intro b03 hgf))
      clear hdc hbs b3 b03 HH hn2 hnc2 E3
      go_wp2_with fail
      refine HD.out.mono ?_
      rintro e w4 ⟨b4, h4, _⟩
      obtain ⟨bd, o4, c4, rfl, BD, hdl, hb4⟩ := h4 rfl
      clear h4 HD
      unfold dmCells at BD
      have d3 : w4.cell? ⟨bd, 3, none⟩ = some (.slice (some ⟨g2, o4, none⟩) x.c.digest.length c4) := BD.cell 3
      have R4 := (HW.out.2.2.1.old H3.out.1).old b4
      have r1 : w4.cell? ⟨dd, 1, none⟩ = some (.int .u64 (x.off : Nat)) := R4.cell 1
      obtain ⟨lk, F, G, hG0, hDk0, hGk, hlk⟩ := HW.out.1
      have hfr : ∀ z v, F z = some v → g2 ∉ v.ownBlock.toList := fun z v hz hm => by
        have h1 := RowV.lt (hG0.2.1 z v hz).1 g2 hm
        have h2 := H3.out.2.2
        omega
      have hG := (hG0.old H3.out.1).old b4
      have hDk := (hDk0.old H3.out.1).old b4
      have hB4 := Old.trans H3.out.2.1 b4
      have hX200 := HX.out.2.1.1.2.2
      obtain ⟨k, hk⟩ : ∃ k, x.c.digest.length = k := ⟨_, rfl⟩
      rw [hk] at d3 hX200
      have hwf : (Lit.int .i64 (k : Int)).wf = true := wf_i64 (by omega)
      have hlo := mapK_lookOk hG.1 Tryz.underlying3 Tryz.underlying243 (zero_drs _) hwf
      have hm4 : m < w4.heap.size := Nat.lt_of_lt_of_le (Nat.lt_of_lt_of_le HW.out.2.2.2.2.1 H3.out.1.size) b4.size
      have hg24 : g2 < w4.heap.size := Nat.lt_of_lt_of_le hg2 b4.size
      have hmg : m < g2 := Nat.lt_of_lt_of_le HW.out.2.2.2.2.1 H3.out.2.2
      have hlen : Hid (x.c.digest.length ≤ 1000 ∧ x.off < 18446744073709551616) := Lib.hid ⟨by rw [hk]; omega, HX.out.2.1.2⟩
      have hXk : Hid (lenK x = (k : Int)) := Lib.hid (by simp [lenK, hk])
      have HG := Lib.hid (And.intro hG (And.intro hDk (And.intro hGk (And.intro hlk (And.intro hB4 (And.intro hfr (And.intro hb4 (And.intro hdl (And.intro hm4 (And.intro hg24 (And.intro hmg hwf)))))))))))
      clear hG0 hDk0 hG hDk hGk hlk hB4 hfr hb4 hdl BD R4 b4 hX200 hm4 hg24 hmg hg2
      have hkd : ∀ l : List UInt8, l.length = x.c.digest.length → l.length = k := fun l h => h.trans hk
      by_cases hmem : (k : Int) ∈ lk
      · obtain ⟨u, hu⟩ := (HG.out.1.1.keys k).1 hmem
        have hdm : decide ((k : Int) ∈ lk) = true := by simp [hmem]
        rw [hu, hdm] at hlo
        simp only [Option.getD_some] at hlo
        have HU := Lib.hid (And.intro hu hmem)
        clear hu hmem hdm
        clear hkd
        rw [← hk] at hlo d3
        have HK0 := Lib.hid hk
        clear hk
        have hGl : Hid ((G k).length + 1 ≤ 1000000000) := Lib.hid (gOk_len HG.out.2.2.1 (by rw [H.out.2.2.2.2.2.1]; exact hn) k)
        go_wp2_with (at_builtin; go_must (refine wpList_dr1 w4 rfl _ _ rfl rfl u _ _ rfl ⟨g2, o4, c4, x.c.digest, x.off⟩ rfl (HG.out.1.2.1 k u HU.out.1).1 hGl.out ?_); intro v' w5 hR hT; obtain ⟨w6, hmu, hS6, hK6⟩ := split1_add HG.out.1 HG.out.2.1 HG.out.2.2.1 (by have := HG.out.2.2.2.1; omega) (by rw [H.out.2.2.2.2.2.1]; exact hn) HX.out.2.2.2.2 HX.out.1 hXk.out HG.out.2.2.2.2.2.2.2.2.2.2.2 (fun y => ⟨.inr, fun h => h.elim (fun e => by rw [e]; exact HU.out.2) id⟩) (by have := HG.out.2.2.2.2.2.2.2.2.1; omega) HU.out.1 ⟨g2, o4, c4, x.c.digest, x.off⟩ ⟨HG.out.2.2.2.2.2.2.1, Nat.le_of_lt HG.out.2.2.2.2.2.2.2.2.2.2.1, HG.out.2.2.2.2.2.2.2.2.2.1, Nat.ne_of_gt HG.out.2.2.2.2.2.2.2.2.2.2.1, HG.out.2.2.2.2.2.2.2.1, hlen.out.1, hlen.out.2, HG.out.2.2.2.2.2.1⟩ rfl hR hT; rw [← HK0.out] at hmu; replace hS6 := Lib.hid (And.intro hS6 (And.intro hK6 hT)); clear hR hT hK6)
        refine ⟨⟨i + 1, by omega, by go_num, hS6.out.1, ((Kp.of_below HG.out.2.2.2.2.1 []).step hS6.out.2.1 (fun j hj => ?_)).below, Nat.lt_of_lt_of_le HG.out.2.2.2.2.2.2.2.2.1 hS6.out.2.1.size⟩, by simp [intOf]; omega⟩
        rcases List.mem_cons.1 hj with rfl | hj
        · exact .inr (by rw [H.out.2.2.2.2.2.2.2.2.2.2]; exact Nat.le_refl _)
        · exact .inr (by rw [H.out.2.2.2.2.2.2.2.2.2.2]; exact ((HG.out.1.2.1 k u HU.out.1).2 j hj).1)
      · have hno : F (k : Int) = none := by
          cases hF : F (k : Int) with
          | none => rfl
          | some u => exact absurd ((HG.out.1.1.keys k).2 ⟨u, hF⟩) hmem
        have hdm : decide ((k : Int) ∈ lk) = false := by simp [hmem]
        rw [hno, hdm] at hlo
        simp only [Option.getD_none] at hlo
        have HU := Lib.hid (And.intro hno hmem)
        clear hno hmem hdm
        clear hkd
        have hm0 := mk0_dr w4
        obtain ⟨W0, hW0⟩ : ∃ W0, w4.alloc (.cells #[] 247) = W0 := ⟨_, rfl⟩
        obtain ⟨s4, hs4⟩ : ∃ s4, w4.heap.size = s4 := ⟨_, rfl⟩
        have b40 : Below w4.heap.size w4 W0 := by rw [← hW0]; exact Old.alloc (Below.refl _ _) _
        have hv0 : RowV W0 2 (.slice (some ⟨s4, 0, none⟩) 0 0) 0 [] := by rw [← hW0, ← hs4]; exact rowV_mk0 _ _ _
        have hms : m < s4 := by rw [← hs4]; exact HG.out.2.2.2.2.2.2.2.2.1
        obtain ⟨w5, hmu5, hG5, hK5⟩ := (HG.out.1.old b40).new Tryz.underlying3 Tryz.underlying243 (by have := HG.out.2.2.2.1; omega) HG.out.2.2.2.2.2.2.2.2.2.2.2 HU.out.2 hv0 (by intro j hj; simp [Value.ownBlock] at hj; omega) (fun y u hy j hj hj2 => by
          have h1 := RowV.lt (HG.out.1.2.1 y u hy).1 j hj
          simp [Value.ownBlock] at hj2
          omega)
        have hD5 := (HG.out.2.1.old b40).new hK5 (k : Int) (.slice (some ⟨s4, 0, none⟩) 0 0) (fun y r hr hj2 => by
          have h1 := (HG.out.2.1 y r hr).2.2.1
          simp [Value.ownBlock] at hj2
          omega)
        have hlk5 := mapK_look hG5.1 Tryz.underlying3 Tryz.underlying243 (zero_drs _) HG.out.2.2.2.2.2.2.2.2.2.2.2
        simp only [reduceIte, Option.getD_some] at hlk5
        have K45 : Kp [m] w4 w5 := (Kp.of_below b40 _).trans hK5
        have r5 : w5.cell? ⟨dd, 1, none⟩ = some (.int .u64 (x.off : Nat)) := (K45.cell (p := ⟨dd, 1, none⟩) (World.block_lt_of_cell? w4 _ r1) (by simp; omega)).trans r1
        have hGk5 : G (k : Int) = [] := HG.out.1.2.2.1 _ HU.out.2
        have hb5 : Bs w5 g2 o4 x.c.digest := HG.out.2.2.2.2.2.2.1.kp K45 (by have := HG.out.2.2.2.2.2.2.2.2.2.2.1; simp; omega)
        have hf5 : ∀ z v, (if z = (k : Int) then some (.slice (some ⟨s4, 0, none⟩) 0 0) else F z) = some v → g2 ∉ v.ownBlock.toList := fun z v hz => by
          by_cases e : z = (k : Int)
          · rw [if_pos e] at hz
            simp only [Option.some.injEq] at hz
            rw [← hz]
            have := HG.out.2.2.2.2.2.2.2.2.2.1
            simp [Value.ownBlock]; omega
          · rw [if_neg e] at hz
            exact HG.out.2.2.2.2.2.1 z v hz
        have hs5 : s4 ≤ w5.heap.size := by rw [← hs4]; exact K45.size
        have hms5 : m < w5.heap.size := Nat.lt_of_lt_of_le HG.out.2.2.2.2.2.2.2.2.1 K45.size
        have hgs5 : g2 < w5.heap.size := Nat.lt_of_lt_of_le HG.out.2.2.2.2.2.2.2.2.2.1 K45.size
        have HN := Lib.hid (And.intro hG5 (And.intro hD5 (And.intro hK5 (And.intro K45 (And.intro hGk5 (And.intro hb5 (And.intro hf5 (And.intro hms (And.intro hs5 (And.intro hms5 (And.intro hgs5 (And.intro hs4 hv0))))))))))))
        have hr5 := hG5.2.1 (k : Int) (.slice (some ⟨s4, 0, none⟩) 0 0) (by simp)
        rw [hGk5] at hr5
        have HR5 := Lib.hid hr5.1
        clear hG5 hD5 hK5 K45 hGk5 hb5 hf5 hv0 b40 hms hs5 hms5 hgs5 hr5
        rw [← hk] at hlo d3 hmu5 hlk5
        have HK0 := Lib.hid hk
        clear hk
        go_wp2_with (at_builtin; go_must (refine wpList_dr1 w5 rfl _ _ rfl rfl (.slice (some ⟨s4, 0, none⟩) 0 0) 0 [] rfl ⟨g2, o4, c4, x.c.digest, x.off⟩ rfl HR5.out (by omega) ?_); intro v' w7 hR hT; obtain ⟨w6, hmu, hS6, hK6⟩ := split1_add HN.out.1 HN.out.2.1 HG.out.2.2.1 (by have := HG.out.2.2.2.1; have := keyPut_len lk (k : Int); omega) (by rw [H.out.2.2.2.2.2.1]; exact hn) HX.out.2.2.2.2 HX.out.1 hXk.out HG.out.2.2.2.2.2.2.2.2.2.2.2 (fun y => keyPut_mem lk (k : Int) y) (Nat.le_of_lt HN.out.2.2.2.2.2.2.2.2.2.1) (u := .slice (some ⟨s4, 0, none⟩) 0 0) (by simp) ⟨g2, o4, c4, x.c.digest, x.off⟩ ⟨HN.out.2.2.2.2.2.1, Nat.le_of_lt HG.out.2.2.2.2.2.2.2.2.2.2.1, HN.out.2.2.2.2.2.2.2.2.2.2.1, Nat.ne_of_gt HG.out.2.2.2.2.2.2.2.2.2.2.1, HG.out.2.2.2.2.2.2.2.1, hlen.out.1, hlen.out.2, HN.out.2.2.2.2.2.2.1⟩ rfl (by rw [HN.out.2.2.2.2.1]; exact hR) hT; rw [← HK0.out] at hmu; replace hS6 := Lib.hid (And.intro hS6 (And.intro hK6 hT)); clear hR hT hK6)
        refine ⟨⟨i + 1, by omega, by go_num, hS6.out.1, ((Kp.of_below HG.out.2.2.2.2.1 []).step (HN.out.2.2.2.1.step hS6.out.2.1 (fun j hj => ?_)) (fun j hj => ?_)).below, Nat.lt_of_lt_of_le HN.out.2.2.2.2.2.2.2.2.2.1 hS6.out.2.1.size⟩, by simp [intOf]; omega⟩
        · rcases List.mem_cons.1 hj with rfl | hj
          · exact .inl (by simp)
          · simp [Value.ownBlock] at hj
            exact .inr (by have := HN.out.2.2.2.2.2.2.2.2.2.2.2.1; omega)
        · simp at hj
          exact .inr (by have := H.out.2.2.2.2.2.2.2.2.2.2; omega)
    · have hdd : decide ((i : Int) < (n : Int)) = false := by rw [decide_eq_false_iff_not]; omega
      have hik' : i = n := by omega
      subst hik'
      obtain ⟨lk, F, G, hG, hDk, hGk, hlk⟩ := hS
      obtain ⟨w2, hrg, hR2, b2, hs2⟩ := mapK_range hG.1 Tryz.underlying3 Tryz.underlying243
      obtain ⟨r, hr⟩ : ∃ r, wr.heap.size = r := ⟨_, rfl⟩
      rw [hr] at hrg hR2 hs2
      have hnd := hG.1.nodup
      have hFr : ∀ x v, F x = some v → ∀ i ∈ v.ownBlock.toList, m < i ∧ i < r := fun x v hx i hi => by
        have h1 := (hG.2.1 x v hx).2 i hi
        have h2 := RowV.lt (hG.2.1 x v hx).1 i hi
        omega
      have hmbm : mb < m := by have := H.out.2.2.1.lt; have := H.out.2.2.2.2.2.2.2.2.2.2; omega
      have hGr : ∀ y, ∀ q ∈ G y, q.g < r ∧ q.g ≠ mb ∧ ∀ z v, F z = some v → q.g ∉ v.ownBlock.toList := fun y q hq => by
        obtain ⟨h1, h2, h3, h4, h5, h6, h7, h8⟩ := hDk y q hq
        exact ⟨by omega, by omega, h8⟩
      have hGd : ∀ y, ∀ q ∈ G y, q.d.length ≤ q.c ∧ q.d.length ≤ 1000 ∧ q.off < 18446744073709551616 := fun y q hq => by
        obtain ⟨h1, h2, h3, h4, h5, h6, h7, h8⟩ := hDk y q hq
        exact ⟨h5, h6, h7⟩
      have hGk2 := gOk_all hGk H.out.2.2.2.2.2.1
      have hmr : m < r := by omega
      have hB2 := Old.trans hB b2
      have hL2 : Load2 L mb m r (r + 1) lk F G w w2 lk := by
        refine ⟨hR2, fun x hx v hv => (hG.2.1 x v hv).1.old b2, fun y q hq => (hDk y q hq).1.old b2, ⟨[], _, H.out.2.2.1.old hB2, by simp, by simp, fun k => ⟨fun h => by simp at h, fun h => absurd h.1 h.2⟩, fun k v h => by simp at h⟩, Kp.of_below hB2 _, by omega⟩
      have HQ := Lib.hid (And.intro hL2 (And.intro hnd (And.intro hFr (And.intro hmbm (And.intro hGr (And.intro hGd (And.intro hGk2 (And.intro hmr (And.intro hG.2.2.2 (And.intro hG.1.keys (And.intro hlk (And.intro hB2 hs2))))))))))))
      have hwm := H.out.2.2.2.2.2.2.2.2.2.2
      have hpb := World.block_lt_of_cell? w _ H.out.1
      clear hG hDk hGk hR2 b2 hs2 hnd hFr hmbm hGr hGd hGk2 hmr hL2 hB hB2 hmw hlk hr
      go_wp2_with fail
      clear hrg
      go_loopw [13] (fun _ wr => ∃ todo, Load2 L mb m r (r + 1) lk F G w wr todo ∧ todo.Nodup ∧ (∀ x ∈ todo, x ∈ lk)) (fun _ wr => wr.rangeLeft m r)
      case atStart => exact ⟨lk, HQ.out.1, HQ.out.2.1, fun x hx => hx⟩
      case round =>
        obtain ⟨todo, hL, hnd, hsub⟩ := hrel
        rcases hL.1.next Tryz.underlying3 0 with ⟨rfl, hnx⟩ | ⟨x, v, w3, hx, hF, hxw, hnx, hR3, hlt, k3, hs3, hen⟩
        · have HE := Lib.hid hL
          clear hL hnd hsub
          go_wp2_with fail
          exact bodyPost_ret (v := .nilIface) (by simp [results, Tryz.results169, go_sem]) rfl (load2_done HE.out (fun y => HQ.out.2.2.2.2.2.2.1.2 y) (by have := HQ.out.2.2.2.2.2.2.2.1; omega))
        · have hxl := hsub x hx
          obtain ⟨yk, hykL, hyk⟩ := (HQ.out.2.2.2.2.2.2.1.2 x).1 hxl
          have hyo := H.out.2.2.2.2.1 yk hykL
          obtain ⟨k, hk⟩ : ∃ k : Nat, (k : Int) = x := ⟨yk.c.digest.length, hyk⟩
          subst hk
          have hk200 : k ≤ 200 := by
            have h1 := hyo.1.2.2
            have h2 : (yk.c.digest.length : Int) = k := hyk
            omega
          have hGx := HQ.out.2.2.2.2.2.2.1.1 (k : Int)
          have hGne : G (k : Int) ≠ [] := fun e => by
            rw [e] at hGx
            have h1 : yk ∈ ofKey lenK L (k : Int) := List.mem_filter.2 ⟨hykL, by simpa using hyk⟩
            have h3 : ofKey lenK L (k : Int) = [] := List.eq_nil_of_length_eq_zero (by have := congrArg List.length hGx; simpa using this.symm)
            rw [h3] at h1
            cases h1
          have hGl : (G (k : Int)).length ≤ 60 := by
            have h1 := congrArg List.length hGx
            rw [List.length_map, List.length_map] at h1
            have h2 := List.length_filter_le (fun x => decide (lenK x = (k : Int))) L
            unfold ofKey at h1
            have := H.out.2.2.2.2.2.1
            omega
          have hGs : ∀ q ∈ G (k : Int), q.d.length = k := fun q hq => by
            have h1 : sayR q ∈ (ofKey lenK L (k : Int)).map sayD := by rw [← hGx]; exact List.mem_map_of_mem hq
            obtain ⟨z, hz, e⟩ := List.mem_map.1 h1
            have h2 := (List.mem_filter.1 hz).2
            have h3 : z.c.digest = q.d := congrArg Prod.fst e
            rw [← h3]
            simp only [lenK, decide_eq_true_eq] at h2
            omega
          have hr0 := HQ.out.2.2.1 (k : Int) v hF
          have hv3 := (hL.2.1 (k : Int) hx v hF).kp k3 (fun i hi => by have := hr0 i hi; simp; omega)
          have hq3 : ∀ q ∈ G (k : Int), Bs w3 q.g q.o q.d ∧ q.g < w3.heap.size ∧ q.d.length ≤ q.c ∧ q.d.length ≤ 1000 ∧ q.g ∉ v.ownBlock.toList := fun q hq => by
            have h1 := HQ.out.2.2.2.2.1 (k : Int) q hq
            have h2 := HQ.out.2.2.2.2.2.1 (k : Int) q hq
            have h3 := hL.2.2.2.2.2
            have h4 := k3.size
            exact ⟨(hL.2.2.1 (k : Int) q hq).kp k3 (by simp; omega), by omega, h2.1, h2.2.1, h1.2.2 (k : Int) v hF⟩
          have hof : ∀ q ∈ G (k : Int), q.off < 18446744073709551616 := fun q hq => (HQ.out.2.2.2.2.2.1 (k : Int) q hq).2.2
          obtain ⟨gX, cX, rfl, hncX, hgX, hD3⟩ := rowV_dRow hv3 hGne hq3
          obtain ⟨D, hD⟩ : ∃ D, (G (k : Int)).toArray = D := ⟨_, rfl⟩
          obtain ⟨nX, hnX⟩ : ∃ nX, D.size = nX := ⟨_, rfl⟩
          have hGD : G (k : Int) = D.toList := by rw [← hD]
          have hnX60 : nX ≤ 60 := by rw [← hnX, ← hD]; simpa using hGl
          have hnX0 : 0 < nX := by rw [← hnX, ← hD]; simpa using List.length_pos_iff.2 hGne
          rw [hD] at hnx hen hF hD3
          have hso := drSort gX cX D w3 hD3 (by omega) hgX
          rw [hnX] at hnx hen hF hso
          rw [hGD] at hGs hGx hof
          have HS := Lib.hid hso
          have hB3 : r + 1 ≤ w3.heap.size := Nat.le_trans hL.2.2.2.2.2 k3.size
          have HR := Lib.hid (And.intro hL (And.intro hnd (And.intro hsub (And.intro hx (And.intro hF (And.intro hR3 (And.intro hlt (And.intro k3 (And.intro hGx (And.intro hGs (And.intro hr0 (And.intro hnX (And.intro hgX (And.intro hxl hof))))))))))))))
          clear hof hL hnd hsub hx hF hR3 hlt k3 hGx hGs hr0 hv3 hq3 hGne hGl hD hGD hD3 hso hyo hyk hykL hxl hs3 hnX hgX
          go_wp2_with fail
          refine HS.out.mono ?_
          rintro e w5 ⟨rfl, ⟨d', hD5, hP, hSo⟩, k5⟩
          have hds : d'.size = nX := hP.1.trans HR.out.2.2.2.2.2.2.2.2.2.2.2.1
          have hPl : d'.toList.Perm D.toList := permIn_list hP rfl
          have hSl := sortedIn_list (n := D.size) hSo hP.1
          have hdk : ∀ q ∈ d'.toList, q.d.length = k ∧ q.off < 18446744073709551616 := fun q hq => ⟨HR.out.2.2.2.2.2.2.2.2.2.1 q (hPl.mem_iff.1 hq), HR.out.2.2.2.2.2.2.2.2.2.2.2.2.2.2 q (hPl.mem_iff.1 hq)⟩
          have hdl : d'.toList.length = nX := by simpa using hds
          obtain ⟨T, hT⟩ : ∃ T, nX * (k + 8) = T := ⟨_, rfl⟩
          have hTm : T ≤ 60 * 208 := by rw [← hT]; exact Nat.mul_le_mul hnX60 (by omega)
          have hTI : ((k : Int) + 8) * (nX : Int) = (T : Int) := by rw [← hT, Int.natCast_mul, Int.natCast_add, Int.mul_comm]; rfl
          have hwT : IntKind.i64.wrap (((k : Int) + 8) * (nX : Int)) = (T : Int) := by rw [hTI, IntKind.wrap_i64]; omega
          have hmk := mk_bytes T (by omega) (T : Int) rfl w5
          obtain ⟨W6, hW6⟩ : ∃ W6, w5.alloc (.cells (List.replicate T (.int .u8 0)).toArray 5) = W6 := ⟨_, rfl⟩
          obtain ⟨gc, hgc⟩ : ∃ gc, w5.heap.size = gc := ⟨_, rfl⟩
          have N6 : Blk W6 gc 5 (List.replicate T (.int .u8 0)).toArray := by rw [← hW6, ← hgc]; exact Blk.new _ _ _
          have b56 : Below w5.heap.size w5 W6 := by rw [← hW6]; exact Old.alloc (Below.refl _ _) _
          rw [hW6, hgc] at hmk
          have hgX5 : gX < w5.heap.size := Nat.lt_of_lt_of_le HR.out.2.2.2.2.2.2.2.2.2.2.2.2.1 k5.size
          have hrc : r + 1 ≤ gc := by rw [← hgc]; exact Nat.le_trans hB3 k5.size
          have HD := Lib.hid (And.intro hD5 (And.intro hds (And.intro hPl (And.intro hSl (And.intro hdk (And.intro hdl (And.intro hT (And.intro b56 (And.intro hgX5 (And.intro k5 (And.intro hgc (And.intro N6 hrc))))))))))))
          clear hD5 hP hSo k5 hds hPl hSl hdk hdl b56 hgX5 N6 hrc hTI hT
          have hnXI : (0 : Int) < (nX : Int) := by omega
          go_wp2_with fail
          clear hmk hW6 hwT
          go_loopw [88] (fun v88 wj => ∃ (j : Nat) (zs : List Value), j ≤ nX ∧ v88 = .int .i64 j ∧ Blk wj gc 5 (Lib.byteCells (rowsD (d'.toList.take j)) ++ zs).toArray ∧ Hid (zs.length = T - j * (k + 8)) ∧ Kp [gc] W6 wj) (fun v88 _ => nX - (intOf v88).toNat)
          case atStart => exact ⟨0, List.replicate T (.int .u8 0), Nat.zero_le _, rfl, by simpa [rowsD, Lib.byteCells] using HD.out.2.2.2.2.2.2.2.2.2.2.2.1, Lib.hid (by simp), Kp.refl _ _⟩
          case round =>
            obtain ⟨j, zs, hj, rfl, hBj, hzs, hKj⟩ := hrel
            have hb5j : Below w5.heap.size w5 wr := ((Kp.of_below HD.out.2.2.2.2.2.2.2.1 []).step hKj (by intro i hi; simp at hi; subst hi; exact .inr (by have := HD.out.2.2.2.2.2.2.2.2.2.2.1; omega))).below
            have hDj : DRow wr gX d' := HD.out.1.below hb5j HD.out.2.2.2.2.2.2.2.2.1 (fun i hi => (HD.out.1.2 i hi).2.2.1)
            by_cases hjn : j < nX
            · have hdj : decide ((j : Int) < (nX : Int)) = true := by rw [decide_eq_true_eq]; omega
              have hjd : j < d'.size := by rw [HD.out.2.1]; exact hjn
              have hjl : j < d'.toList.length := by rw [HD.out.2.2.2.2.2.1]; exact hjn
              obtain ⟨c0, c1⟩ := dRow_cells hDj j hjd
              have hok := hDj.2 j hjd
              have hrt := rowsD_take hjl
              have hxd := HD.out.2.2.2.2.1 d'.toList[j] (List.getElem_mem hjl)
              have hpl := rowsD_len (l := d'.toList.take j) (k := k) (fun q hq => (HD.out.2.2.2.2.1 q (List.mem_of_mem_take hq)).1)
              rw [show (d'.toList.take j).length = j by rw [List.length_take]; omega] at hpl
              have hxe : d'.toList[j] = d'[j]! := by rw [getElem!_pos d' j hjd]; simp
              rw [hxe] at hrt hxd
              obtain ⟨x, hxx⟩ : ∃ x, d'[j]! = x := ⟨_, rfl⟩
              rw [hxx] at c0 c1 hok hrt hxd
              obtain ⟨dx, hdx⟩ : ∃ dx, x.d.length = dx := ⟨_, rfl⟩
              obtain ⟨aj, haj⟩ : ∃ aj, j * (k + 8) = aj := ⟨_, rfl⟩
              obtain ⟨bj, hbj⟩ : ∃ bj, aj + (k + 8) = bj := ⟨_, rfl⟩
              rw [haj] at hpl
              have hajI : (j : Int) * ((k : Int) + 8) = (aj : Int) := by rw [← haj, Int.natCast_mul, Int.natCast_add]; rfl
              have hbjI : ((j : Int) + 1) * ((k : Int) + 8) = (bj : Int) := by rw [Int.add_mul, hajI]; omega
              have hbT : bj ≤ T := by
                have h1 := Nat.mul_le_mul_right (k + 8) (show j + 1 ≤ nX from hjn)
                rw [Nat.succ_mul, haj, HD.out.2.2.2.2.2.2.1] at h1
                omega
              have hwA : IntKind.i64.wrap ((j : Int) * ((k : Int) + 8)) = (aj : Int) := by rw [hajI, IntKind.wrap_i64]; omega
              have hwB : IntKind.i64.wrap (((j : Int) + 1) * ((k : Int) + 8)) = (bj : Int) := by rw [hbjI, IntKind.wrap_i64]; omega
              have hwj : IntKind.i64.wrap ((j : Int) + 1) = (j : Int) + 1 := by rw [IntKind.wrap_i64]; omega
              have hab : (aj : Int) ≤ (bj : Int) := by omega
              have haT : (aj : Int) ≤ (T : Int) := by omega
              have hbTI : (bj : Int) ≤ (T : Int) := by omega
              have hzl : zs.length = T - aj := by rw [hzs.out, haj]
              have hTa : ¬ T = aj := by omega
              have hTa2 : ¬ aj = T := by omega
              obtain ⟨W7, hW7⟩ : ∃ W7, wr.alloc (.cells #[.slice (some ⟨x.g, x.o, none⟩) x.d.length x.c, .int .u64 (x.off : Nat)] 247) = W7 := ⟨_, rfl⟩
              have b7 : Below wr.heap.size wr W7 := by rw [← hW7]; exact Old.alloc (Below.refl _ _) _
              have N7 : Blk W7 wr.heap.size 247 #[.slice (some ⟨x.g, x.o, none⟩) x.d.length x.c, .int .u64 (x.off : Nat)] := by rw [← hW7]; exact Blk.new _ _ _
              have n0 : W7.cell? ⟨wr.heap.size, 0, none⟩ = some (.slice (some ⟨x.g, x.o, none⟩) x.d.length x.c) := N7.cell 0
              have n1 : W7.cell? ⟨wr.heap.size, 1, none⟩ = some (.int .u64 (x.off : Nat)) := N7.cell 1
              have hgcw : gc ≤ w5.heap.size := by have := HD.out.2.2.2.2.2.2.2.2.2.2.1; omega
              have HW := Lib.hid (drWrite_any x gc aj (bj - aj) (T - aj) _ zs W7.drew 5 ((hBj.old b7).drew) (by rw [Lib.byteCells_length, hpl]) (by omega) (by rw [hxd.1]; omega) (by omega) (show Bs W7.drew x.g x.o x.d from hok.1.old (RowKit.Below.drew b7)) hok.2.2.2.1 hxd.2 (by
                have h1 := (HD.out.1.2 j hjd).2.2.1
                rw [hxx] at h1
                have := HD.out.2.2.2.2.2.2.2.2.2.2.1
                omega) (by omega))
              have HJ := Lib.hid (And.intro hKj (And.intro b7 (And.intro hrt (And.intro hzl (And.intro haj hbj)))))
              have hjI : (j : Int) < (nX : Int) := by omega
              clear hKj b7 N7 hrt hzl haj hbj hBj hzs hDj hok hxd hpl hxe hxx hdx dx hajI hbjI hbT hb5j
              go_wp2_with fail
              clear c0 c1
              go_still_tail 10, (by kernel_rfl)
              change wpList _ _ _ _ _ W7.drew
              go_wp2_with fail
              refine HW.out.mono ?_
              rintro _ w8 ⟨rfl, B8, K8⟩
              replace B8 := Lib.hid (And.intro B8 K8)
              clear K8
              go_wp2_with fail
              go_roundw
              case rel =>
                refine ⟨j + 1, zs.drop (bj - aj), by omega, by go_num, ?_, Lib.hid ?_, ?_⟩
                · rw [HJ.out.2.2.1, Lib.byteCells_append]; exact B8.out.1
                · have h1 := HJ.out.2.2.2.2.1
                  have h2 := HJ.out.2.2.2.2.2
                  rw [List.length_drop, HJ.out.2.2.2.1, Nat.succ_mul, h1]; omega
                · exact (HJ.out.1.trans ((Kp.of_below HJ.out.2.1 _).drew)).trans B8.out.2
              case measure => simp [intOf]; omega
            · have hdj : decide ((j : Int) < (nX : Int)) = false := by rw [decide_eq_false_iff_not]; omega
              have hjn' : nX = j := by omega
              subst hjn'
              obtain ⟨hL, hnd, hsub, hx, hF, hR3, hlt, k3, hGx, hGs, hr0, hnX, hgX, hxl, hof⟩ := HR.out
              obtain ⟨hD5, hds, hPl, hSl, hdk, hdl, hT, b56, hgX5, k5, hgc, N6, hrc⟩ := HD.out
              obtain ⟨_, _, _, ⟨lk', F', hMK, hlk1, hlk2, hks, hsw⟩, hK0, hB20⟩ := id hL
              obtain ⟨_, _, hFr, hmbm, hGr, hGd, hGk2, hmr, hap, hkeys, hlkn, hB2w, hs2w⟩ := HQ.out
              have hgx := hr0 gX (by simp [Value.ownBlock])
              have hk5 := k5.size
              have hk3 := k3.size
              have kW : Kp [gX] w3 wr := (k5.old b56).step hKj (fun i hi => by
                rw [List.mem_singleton.1 hi]; exact .inr (by omega))
              have hz0 : zs = [] := List.eq_nil_of_length_eq_zero (by rw [hzs.out, hT]; omega)
              subst hz0
              rw [List.append_nil, List.take_of_length_le (by rw [hdl]; exact Nat.le_refl _)] at hBj
              have hsB : Bs wr gc 0 (rowsD d'.toList) := bs_blk hBj
              have hrl : (rowsD d'.toList).length = T := by rw [rowsD_len (k := k) (fun q hq => (hdk q hq).1), hdl, hT]
              obtain ⟨W8, hW8⟩ : ∃ W8, wr.alloc (.cells #[.int .u32 ((k : Int) + 8), .int .u64 (nX : Int), .slice (some ⟨gc, 0, none⟩) T T] 252) = W8 := ⟨_, rfl⟩
              have b8 : Below wr.heap.size wr W8 := by rw [← hW8]; exact Old.alloc (Below.refl _ _) _
              have N8 : Blk W8 wr.heap.size 252 #[.int .u32 ((k : Int) + 8), .int .u64 (nX : Int), .slice (some ⟨gc, 0, none⟩) T T] := by rw [← hW8]; exact Blk.new _ _ _
              have k8 : Kp [gX] w3 W8.drew := (kW.old b8).drew
              have hM8 : MapK 172 .u32 W8.drew mb lk' F' := (hMK.kp k3 (by simp; omega)).kp k8 (by simp; omega)
              have hwf8 : (Lit.int .u32 ((k : Int) + 8)).wf = true := wf_u32 (by omega)
              obtain ⟨w9, hmu, hM9, k9⟩ := mapK_put hM8 Tryz.underlying172 Tryz.underlying132 (by omega) hwf8 (.agg #[.int .u32 ((k : Int) + 8), .int .u64 (nX : Int), .slice (some ⟨gc, 0, none⟩) T T])
              have hgcw : gc < wr.heap.size := hBj.lt
              have k89 : Kp [mb] wr W8.drew := (Kp.of_below b8 _).drew
              have hs9 : SwOk W8.drew (r + 1) L ((k : Int) + 8) (.agg #[.int .u32 ((k : Int) + 8), .int .u64 (nX : Int), .slice (some ⟨gc, 0, none⟩) T T]) := swOk_made hrc (Nat.lt_of_lt_of_le hgcw k89.size) (hsB.kp k89 (by simp; omega)) hrl hdl hPl hSl hGx
              have hEnd := load2_end hL hx hxl hR3 k3 hF (gX := gX) (by simp [Value.ownBlock]) hnd hap hFr hGr hmr hmbm (Nat.lt_succ_self r) hwm hM8 k8 hlk2 hks (fun y u hy => ((hsw y u hy).kp k3 (by simp)).kp k8 (by simp; omega)) hM9 k9 hs9
              have hMs : w9.rangeLeft m r = w3.rangeLeft m r := hR3.kp_left (L := [gX, mb]) ((k8.weaken (by simp)).trans (k9.weaken (by simp))) (by simp; omega) (by simp; omega)
              have kAll : Kp [mb] w W8 := ((hK0.step k3 (by simp; omega)).step (kW.old b8) (by simp; omega))
              have pc : W8.cell? ⟨pb, 0, none⟩ = some (.map (some mb)) := (kAll.cell (p := ⟨pb, 0, none⟩) hpb (by simpa using H.out.2.1)).trans H.out.1
              have n0 : W8.cell? ⟨wr.heap.size, 0, none⟩ = some (.int .u32 ((k : Int) + 8)) := N8.cell 0
              have n1 : W8.cell? ⟨wr.heap.size, 1, none⟩ = some (.int .u64 (nX : Int)) := N8.cell 1
              have n2 : W8.cell? ⟨wr.heap.size, 2, none⟩ = some (.slice (some ⟨gc, 0, none⟩) T T) := N8.cell 2
              have hwu : IntKind.u32.wrap ((k : Int) + 8) = (k : Int) + 8 := by rw [IntKind.wrap_u32]; omega
              have hwu2 : IntKind.u32.wrap (k : Int) = (k : Int) := by rw [IntKind.wrap_u32]; omega
              have hwn : IntKind.u64.wrap (nX : Int) = (nX : Int) := by rw [IntKind.wrap_u64]; omega
              have HZ := Lib.hid (And.intro hEnd (And.intro (show w9.rangeLeft m r < _ by rw [hMs]; exact hlt) (And.intro (hnd.erase (k : Int)) (show ∀ x ∈ todo.erase (k : Int), x ∈ lk from fun x hx => hsub x (List.mem_of_mem_erase hx)))))
              clear hL hnd hsub hx hF hR3 hlt k3 hGx hGs hr0 hnX hgX hxl hof hD5 hds hPl hSl hdk hdl hT b56 hgX5 k5 hgc N6 hrc hMK hlk1 hlk2 hks hsw hK0 hB20 hFr hmbm hGr hGd hGk2 hmr hap hkeys hlkn hB2w hs2w hgx hk5 hk3 kW hsB hrl b8 N8 k8 hM8 hwf8 hM9 k9 hgcw k89 hs9 hEnd hMs kAll hBj hKj hzs HR HD HQ hpb hwm
              go_wp2_with fail
              clear hW8
              go_region
              all_goals go_wp2_with fail
              all_goals go_roundw
              case rel => exact ⟨_, HZ.out.1, HZ.out.2.2.1, HZ.out.2.2.2⟩
              case measure => exact HZ.out.2.1
end Go.Proofs.YtcljffldbnoljaaGreatDoor
