/-
  The walk of laws.FnHdTurned. Conditions: as the contract says.
-/
import Derived.Test.YtdfhfaeeejijcaaDoorHdH
import Derived.Test.YtdfhfaeeejijcaaDoorRw
import Derived.Test.YtdfhfaeeejijcaaDoorBy
import Derived.Deep.MidRow
import Derived.Lib.AppendZeros
namespace Go.Proofs.YtdfhfaeeejijcaaDoor
open Go.RowKit

theorem infoICid : (Tryd.prog.info? 26).map (fun i => (i.zero, i.size, i.bytes)) = some (some (.agg #[.int .u64 0, .int .u64 0, .int .u64 0, .string ⟨#[]⟩]), 4, 40) := by kernel_rfl

theorem cs_one {w : World} {g : Nat} {t : TypeId} {x : CidL} (h : Blk w g t #[.int .u64 (x.version : Nat), .int .u64 (x.codec : Nat), .int .u64 (x.code : Nat), .string ⟨x.digest.toArray⟩]) : Cs w g 0 [x] := by
  intro i hi
  obtain rfl : i = 0 := by simpa using hi
  exact ⟨h.cell 0, h.cell 1, h.cell 2, h.cell 3⟩

/-- An append whose run is known, at an operation whose guard says yes. -/
theorem wpList_append_run_g {P : Program} (w : World) {ops : Array Oper} {rest : List Oper} {o : Oper} {a : Act} {Q : Exit → Act → World → Prop} (hw : Region.wanted o (yielded ops a.tmps) = true) (s x : Operand) (t tn : TypeId)
    (ho : o.op = .call { callee := .builtin .append, args := #[s, x], argTypes := #[t, tn] }) (vs vx : Value) (hs : a.eval s = vs) (hx : a.eval x = vx)
    (v' : Value) (w' : World) (hr : (Builtin.append_ #[t, tn] o.type #[vs, vx]).run P w = .ok v' w') (h : wpList P ops Q rest (a.put o.dst v') w') : wpList P ops Q (o :: rest) a w :=
  wpList_step fun K hK => by rw [if_pos hw]; exact Lib.wp_append_run w s x t tn ho vs vx hs hx v' w' hr (hK _ _ h)

set_option maxRecDepth 100000 in
set_option maxHeartbeats 4000000 in
theorem fnHdTurned_walk (a : Option Addr) (n c : Nat) (L : List CidL) (v : Int) (oa : Option Addr) (on oc : Nat) (O : List UInt8) (x : CidL) (w : World) (hL : L.length = n) (hn : n ≤ 9223372036854775807) (hf : ∀ x ∈ L, x.fit) (h : n = 0 ∨ ∃ b off, a = some ⟨b, off, none⟩ ∧ Cs w b off L)
    (hv : 0 ≤ v ∧ v < 18446744073709551616) (hO : O.length = on) (hon : on ≤ 9223372036854775807) (ho : on = 0 ∨ ∃ b off, oa = some ⟨b, off, none⟩ ∧ Bs w b off O) (hx : x.fit)
    (e0 : Er w 7) (e1 : Er w 8) (e2 : Er w 9) (e3 : Er w 13) :
    Calls Tryd.prog 3 #[.slice a n c, .int .u64 v, .slice oa on oc, .agg #[.int .u64 (x.version : Nat), .int .u64 (x.codec : Nat), .int .u64 (x.code : Nat), .string ⟨x.digest.toArray⟩]] w fun e w' => e = .returned (.bool true) ∧ Below w.heap.size w w' := by
  have HF := Lib.hid (And.intro hL (And.intro hf (And.intro h (And.intro hO (And.intro ho (And.intro hx hv))))))
  have HE := Lib.hid (And.intro e0 (And.intro e1 (And.intro e2 e3)))
  have HZ := Lib.hid (fun W (hb : Below w.heap.size w W) => zzFits2_any a n c L W hL hn hf (h.imp id (fun ⟨b, off, ha, hc⟩ => ⟨b, off, ha, hc.old hb⟩)))
  have HG := Lib.hid (fun W (hb : Below w.heap.size w W) => hdGood_any a n c L W hL hn hf (h.imp id (fun ⟨b, off, ha, hc⟩ => ⟨b, off, ha, hc.old hb⟩)))
  have b0 := Old.alloc (Below.refl w.heap.size w) (.cells #[.int .u64 (x.version : Nat), .int .u64 (x.codec : Nat), .int .u64 (x.code : Nat), .string ⟨x.digest.toArray⟩] 26)
  have X0 := Blk.new w 26 #[.int .u64 (x.version : Nat), .int .u64 (x.codec : Nat), .int .u64 (x.code : Nat), .string ⟨x.digest.toArray⟩]
  clear hL hf h hO ho hx e0 e1 e2 e3 hv
  go_enter Tryd.func3, Tryd.ntmps3
  go_wp2_with fail
  generalize w.alloc (.cells #[.int .u64 (x.version : Nat), .int .u64 (x.codec : Nat), .int .u64 (x.code : Nat), .string ⟨x.digest.toArray⟩] 26) = W0 at *
  refine (HZ.out W0 b0).mono ?_
  rintro e w1 ⟨⟨Z, rfl, hZ⟩, b1⟩
  have b01 := Old.trans b0 b1
  have X1 := X0.old b1
  clear hZ HZ b0 b1 X0
  cases Z
  · go_wp2_with fail
    go_ret
    exact ⟨rfl, b01⟩
  by_cases ho31 : on ≤ 2147483647
  case neg =>
    have ho31d : decide ((2147483647 : Int) < (on : Int)) = true := by simp; omega
    go_wp2_with fail
    go_ret
    exact ⟨rfl, b01⟩
  have ho31d : decide ((2147483647 : Int) < (on : Int)) = false := by simp; omega
  have x0 : w1.cell? ⟨w.heap.size, 0, none⟩ = some (.int .u64 (x.version : Nat)) := X1.cell 0
  have x1 : w1.cell? ⟨w.heap.size, 1, none⟩ = some (.int .u64 (x.codec : Nat)) := X1.cell 1
  have x2 : w1.cell? ⟨w.heap.size, 2, none⟩ = some (.int .u64 (x.code : Nat)) := X1.cell 2
  have x3 : w1.cell? ⟨w.heap.size, 3, none⟩ = some (.string ⟨x.digest.toArray⟩) := X1.cell 3
  go_wp2_with fail
  refine (zzFits1_b _ _ _ _ _ HF.out.2.2.2.2.2.1.2.2.2).mono ?_
  rintro e w2 ⟨rfl, b2⟩
  have b02 := Old.trans b01 b2
  have X2 := X1.old b2
  obtain ⟨Z, hZ⟩ : ∃ Z, decide (x.digest.length ≤ 2147483647) = Z := ⟨_, rfl⟩
  rw [hZ]
  clear hZ x0 x1 x2 x3 X1 b01 b2
  cases Z
  · go_wp2_with fail
    go_ret
    exact ⟨rfl, b02⟩
  by_cases h99 : n < 100
  case neg =>
    have h99d : decide ((100 : Int) ≤ (n : Int)) = true := by simp; omega
    go_wp2_with fail
    go_ret
    exact ⟨rfl, b02⟩
  have h99d : decide ((100 : Int) ≤ (n : Int)) = false := by simp; omega
  go_wp2_with fail
  refine (HG.out w2 b02).mono ?_
  rintro e w3 ⟨⟨Z, rfl, hG⟩, b3⟩
  have b03 := Old.trans b02 b3
  have X3 := X2.old b3
  have HGG := Lib.hid hG
  clear hG b02 X2 b3 HG
  cases Z
  · go_wp2_with fail
    go_ret
    exact ⟨rfl, b03⟩
  have x0 : w3.cell? ⟨w.heap.size, 0, none⟩ = some (.int .u64 (x.version : Nat)) := X3.cell 0
  have x1 : w3.cell? ⟨w.heap.size, 1, none⟩ = some (.int .u64 (x.codec : Nat)) := X3.cell 1
  have x2 : w3.cell? ⟨w.heap.size, 2, none⟩ = some (.int .u64 (x.code : Nat)) := X3.cell 2
  have x3 : w3.cell? ⟨w.heap.size, 3, none⟩ = some (.string ⟨x.digest.toArray⟩) := X3.cell 3
  have b04 := Old.alloc b03 (.cells #[.int .u64 (x.version : Nat), .int .u64 (x.codec : Nat), .int .u64 (x.code : Nat), .string ⟨x.digest.toArray⟩] 26)
  have X4 := X3.alloc (.cells #[.int .u64 (x.version : Nat), .int .u64 (x.codec : Nat), .int .u64 (x.code : Nat), .string ⟨x.digest.toArray⟩] 26)
  have Y4 := Blk.new w3 26 #[.int .u64 (x.version : Nat), .int .u64 (x.codec : Nat), .int .u64 (x.code : Nat), .string ⟨x.digest.toArray⟩]
  go_wp2_with fail
  generalize w3.alloc (.cells #[.int .u64 (x.version : Nat), .int .u64 (x.codec : Nat), .int .u64 (x.code : Nat), .string ⟨x.digest.toArray⟩] 26) = W4 at *
  refine (hdGood_any (some ⟨w3.heap.size, 0, none⟩) 1 1 [x] W4 rfl (by omega) (fun y hy => by rw [List.mem_singleton.1 hy]; exact HF.out.2.2.2.2.2.1) (.inr ⟨_, _, rfl, cs_one Y4⟩)).mono ?_
  rintro e w5 ⟨⟨Z, rfl, hG⟩, b5⟩
  have b05 := Old.trans b04 b5
  have X5 := X4.old b5
  have HGX := Lib.hid hG
  clear hG b03 b04 X3 X4 Y4 b5 x0 x1 x2 x3
  cases Z
  · go_wp2_with fail
    go_ret
    exact ⟨rfl, b05⟩
  have hgx : x.hd := (HGX.out (by first | rfl | trivial)).2 0 (by simp)
  have hgl := (HGG.out (by first | rfl | trivial)).2
  have HGA := Lib.hid (And.intro hgx hgl)
  clear hgx hgl HGX HGG
  obtain ⟨i0, hi0, hz0, hz1, hz2⟩ := info_parts infoICid
  have O5 := World.ownsRow_made (e := 26) (base := w.heap.size) (size := 4) w5 #[] 0 b05.size (by unfold maxLen; omega) rfl
  have b06 := Old.alloc b05 (.cells #[] 26)
  have X6 := X5.alloc (.cells #[] 26)
  obtain ⟨g, cap, W7, hrun, hown, hgr, hgg⟩ := append_rows (P := Tryd.prog) (w5.alloc (.cells #[] 26)) w.heap.size 22 26 i0 _ 40 Tryd.underlying22 hi0 hz0 hz1 hz2 rfl w5.heap.size 0 0 [] O5 a n c L HF.out.1
    (HF.out.2.2.1.imp id (fun ⟨b, off, ha, hc⟩ => ⟨b, off, ha, hc.old b06⟩)) (by unfold maxLen; omega) (by omega) b06.size
  rw [Nat.zero_add, List.nil_append] at hown
  rw [Nat.zero_add] at hrun
  have b07 : Below w.heap.size w W7 := b06.grown hgr b06.size (fun k hk => by
    have e : w5.heap.size = k := by simpa using hk
    exact e ▸ b05.size)
  have z5 := X5.lt
  have X7 : Blk W7 w.heap.size 26 #[.int .u64 (x.version : Nat), .int .u64 (x.codec : Nat), .int .u64 (x.code : Nat), .string ⟨x.digest.toArray⟩] := X6.grown hgr (by simp; omega)
  obtain ⟨zs, B7, hc1, hc2, hc3, hwg, _⟩ := own_blk hown
  have hxg : w.heap.size ≠ g := by
    rcases hgg with h | h
    · omega
    · rw [h]; simp; omega
  have HR := Lib.hid hrun
  have HC := Lib.hid (And.intro hc1 (And.intro hc2 (And.intro hwg hxg)))
  have hn99 : n < 100 := h99
  clear hrun hown hgr hgg b05 b06 X5 X6 O5 z5 hc1 hc2 hwg hxg hi0 hz0 hz1 hz2
  go_wp2_with (at_builtin; refine Lib.wpList_append_run _ rfl _ _ _ _ rfl _ _ (by rfl) (by rfl) _ _ HR.out ?_)
  go_loopw [10] (fun i wr => ∃ (k : Nat) (T : List CidL) (zs : List Value), k ≤ n ∧ i = .int .i64 k ∧ Below w.heap.size w wr ∧ Blk wr w.heap.size 26 #[.int .u64 (x.version : Nat), .int .u64 (x.codec : Nat), .int .u64 (x.code : Nat), .string ⟨x.digest.toArray⟩] ∧
      Blk wr g 26 (rows T ++ zs).toArray ∧ (rows T ++ zs).length = cap * 4 ∧ T.Perm L) (fun i _ => n - (intOf i).toNat)
  case atStart => exact ⟨0, L, zs, Nat.zero_le _, rfl, b07, X7, B7, hc3, List.Perm.refl _⟩
  case round =>
    clear b07 X7 B7 hc3
    obtain ⟨k, T, zs, hk, rfl, hW, BX, BG, hcl, hperm⟩ := hrel
    have hTn : T.length = n := hperm.length_eq.trans HF.out.1
    have HP := Lib.hid (And.intro hperm (And.intro hcl hTn))
    clear hperm hcl
    by_cases hgo : k + 1 < n ∧ k < on
    · obtain ⟨hkn, hko⟩ := hgo
      obtain h0 | ⟨ob, of, rfl, hbs⟩ := HF.out.2.2.2.2.1
      · omega
      have hkO : k < O.length := by rw [HF.out.2.2.2.1]; exact hko
      have cO := (hbs.old hW) k hkO
      have hb8 := O[k].toNat_lt
      obtain ⟨bv, hbv⟩ : ∃ bv, O[k].toNat = bv := ⟨_, rfl⟩
      rw [hbv] at cO hb8
      have hko1 : (0 : Int) ≤ (k : Int) := by omega
      have hko2 : (k : Int) < (on : Int) := by omega
      have hkn2 : (k : Int) + 1 < (n : Int) := by omega
      obtain ⟨j, hj, hjn⟩ : ∃ j : Nat, (k : Int) + (bv : Int) % ((n : Int) - (k : Int)) = (j : Int) ∧ j < n := by
        have h1 : 0 < (n : Int) - (k : Int) := by omega
        have h2 := Int.emod_nonneg (bv : Int) (b := (n : Int) - (k : Int)) (by omega)
        have h3 := Int.emod_lt_of_pos (bv : Int) h1
        exact ⟨((k : Int) + (bv : Int) % ((n : Int) - (k : Int))).toNat, by omega, by omega⟩
      have hjI : (j : Int) < (n : Int) := by omega
      have hjI0 : (0 : Int) ≤ (j : Int) := by omega
      clear hbv hbs
      go_wp2_with fail
      clear hj
      have hkT : k < T.length := by rw [HP.out.2.2]; omega
      have hjT : j < T.length := by rw [HP.out.2.2]; omega
      obtain ⟨yk, hyk⟩ : ∃ y, T[k] = y := ⟨_, rfl⟩
      obtain ⟨yj, hyj⟩ : ∃ y, T[j] = y := ⟨_, rfl⟩
      have ck0 := blk_cells BG hkT 0 (by omega)
      have ck1 := blk_cells BG hkT 1 (by omega)
      have ck2 := blk_cells BG hkT 2 (by omega)
      have ck3 := blk_cells BG hkT 3 (by omega)
      have cj0 := blk_cells BG hjT 0 (by omega)
      have cj1 := blk_cells BG hjT 1 (by omega)
      have cj2 := blk_cells BG hjT 2 (by omega)
      have cj3 := blk_cells BG hjT 3 (by omega)
      have ff := fun o => BG.frozen o
      rw [hyk] at ck0 ck1 ck2 ck3
      rw [hyj] at cj0 cj1 cj2 cj3
      simp only [cells4, Nat.add_zero, List.getElem?_cons_zero, List.getElem?_cons_succ] at ck0 ck1 ck2 ck3 cj0 cj1 cj2 cj3
      have HY := Lib.hid (And.intro hyk hyj)
      clear hyk hyj
      have BG' := blk_row_set (blk_row_set BG hkT yj) (k := j) (by rw [List.length_set]; exact hjT) yk
      have hpm : ((T.set k yj).set j yk).Perm L := by
        rw [← HY.out.1, ← HY.out.2]
        exact (List.set_set_perm hkT hjT).trans HP.out.1
      have hln : (rows ((T.set k yj).set j yk) ++ zs).length = cap * 4 := by
        rw [List.length_append, rows_len, List.length_set, List.length_set, ← rows_len, ← List.length_append]; exact HP.out.2.1
      have BX' : Blk ((wr.setCells g (k * 4) (cells4 yj)).setCells g (j * 4) (cells4 yk)) w.heap.size 26 #[.int .u64 (x.version : Nat), .int .u64 (x.codec : Nat), .int .u64 (x.code : Nat), .string ⟨x.digest.toArray⟩] :=
        blk_setCells_far HC.out.2.2.2 (cells4 yk) (j * 4) _ (blk_setCells_far HC.out.2.2.2 (cells4 yj) (k * 4) _ BX)
      have hW' : Below w.heap.size w ((wr.setCells g (k * 4) (cells4 yj)).setCells g (j * 4) (cells4 yk)) := below_setCells HC.out.2.2.1 (cells4 yk) (j * 4) _ (below_setCells HC.out.2.2.1 (cells4 yj) (k * 4) _ hW)
      rw [setCells4, setCells4] at BG' BX' hW'
      have HN := Lib.hid (And.intro (RowKit.Below.drew hW') (And.intro BX'.drew (And.intro BG'.drew (And.intro hln hpm))))
      clear BG' hpm hln BX' hW' BG BX hW cO
      by_cases hjk : j = k
      · subst hjk
        obtain rfl : yk = yj := HY.out.1.symm.trans HY.out.2
        go_region
        go_wp2_with fail
        go_roundw
        case rel => exact ⟨j + 1, (T.set j yk).set j yk, zs, by omega, by go_num, HN.out⟩
        case measure => simp [intOf]; omega
      · have n0 : ¬ j * 4 = k * 4 := by omega
        go_region
        go_wp2_with fail
        go_roundw
        case rel => exact ⟨k + 1, (T.set k yj).set j yk, zs, by omega, by go_num, HN.out⟩
        case measure => simp [intOf]; omega
    · have hT0 : ∀ y, y ∈ T ↔ y ∈ L := fun y => HP.out.1.mem_iff
      have hgT : ∀ (j : Nat) (hj : j < T.length), T[j].hd := fun j hj => by
        obtain ⟨i, hi, e⟩ := List.getElem_of_mem ((hT0 T[j]).1 (List.getElem_mem hj))
        exact e ▸ HGA.out.2 i hi
      have hgT1 : ∀ (j : Nat) (hj : j < (T ++ [x]).length), (T ++ [x])[j].hd := fun j hj => by
        by_cases h : j < T.length
        · rw [List.getElem_append_left h]; exact hgT j h
        · rw [List.getElem_append_right (by omega)]
          have : j - T.length = 0 := by simp at hj; omega
          simp [this]; exact HGA.out.1
      have hm1 : mOk (wrL L) (wrL T) v v true := .inl ⟨rfl, rfl, by simp [wrL, HP.out.2.2, HF.out.1], fun s hs => by
        simp only [wrL, List.mem_map] at hs ⊢
        obtain ⟨y, hy, e⟩ := hs
        exact ⟨y, (hT0 y).2 hy, e⟩⟩
      have hm2 : ∀ u, v ≠ u → mOk (wrL L) (wrL T) v u false := fun u h => .inr ⟨rfl, .inl h⟩
      have hm3 : mOk (wrL L) (wrL (T ++ [x])) v v false := .inr ⟨rfl, .inr (by simp [wrL, HP.out.2.2, HF.out.1])⟩
      have hMA := fun W (u : Int) (r : Bool) (n2 c2 : Nat) (T2 : List CidL) (g2 : Nat) (hb : Below w.heap.size w W) (hl : T2.length = n2) (hn2 : n2 ≤ 1000) (hc : Cs W g2 0 T2) (hg : ∀ (j : Nat) (hj : j < T2.length), T2[j].hd) (hm : mOk (wrL L) (wrL T2) v u r) =>
        hdMatches_any a n c L v (some ⟨g2, 0, none⟩) n2 c2 T2 u r W HF.out.1 (by omega) (HF.out.2.2.1.imp id (fun ⟨b, off, ha, hc⟩ => ⟨b, off, ha, hc.old hb⟩)) HGA.out.2 hl hn2 (.inr ⟨_, _, rfl, hc⟩) hg hm (HE.out.1.old hb) (HE.out.2.1.old hb) (HE.out.2.2.1.old hb) (HE.out.2.2.2.old hb)
      have HM := Lib.hid (And.intro hMA (And.intro hm1 (And.intro hm2 (And.intro hm3 (And.intro hgT hgT1)))))
      clear hT0 hgT hgT1 hm1 hm2 hm3 hMA
      have hex : decide ((k : Int) + 1 < (n : Int)) = false ∨ (decide ((k : Int) + 1 < (n : Int)) = true ∧ decide (k < on) = false) := by
        by_cases h : k + 1 < n
        · right; exact ⟨by simp; omega, by simp; omega⟩
        · left; simp; omega
      clear hgo
      rcases hex with hex | ⟨hex1, hex2⟩
      all_goals
        go_wp2_with fail
        refine (HM.out.1 wr v true n cap T g hW HP.out.2.2 (by omega) (cs_of_blk BG) HM.out.2.2.2.2.1 HM.out.2.1).mono ?_
        rintro e w8 ⟨rfl, b8⟩
        have hW8 := Old.trans hW b8
        have BG8 := BG.old b8
        have BX8 := BX.old b8
        clear BG BX hW b8
        go_wp2_with fail
        refine (HM.out.1 w8 _ false n cap T g hW8 HP.out.2.2 (by omega) (cs_of_blk BG8) HM.out.2.2.2.2.1 (HM.out.2.2.1 _ (by have := HF.out.2.2.2.2.2.2; first | omega | (simp only [IntKind.wrap_u64]; omega)))).mono ?_
        rintro e w9 ⟨rfl, b9⟩
        have hW9 := Old.trans hW8 b9
        have BG9 := BG8.old b9
        have BX9 := BX8.old b9
        have x0 : w9.cell? ⟨w.heap.size, 0, none⟩ = some (.int .u64 (x.version : Nat)) := BX9.cell 0
        have x1 : w9.cell? ⟨w.heap.size, 1, none⟩ = some (.int .u64 (x.codec : Nat)) := BX9.cell 1
        have x2 : w9.cell? ⟨w.heap.size, 2, none⟩ = some (.int .u64 (x.code : Nat)) := BX9.cell 2
        have x3 : w9.cell? ⟨w.heap.size, 3, none⟩ = some (.string ⟨x.digest.toArray⟩) := BX9.cell 3
        have O9 := own_of_blk (base := w.heap.size) BG9 HC.out.1 HC.out.2.1 HP.out.2.1 HC.out.2.2.1 HP.out.2.2
        obtain ⟨j0, hj0, jz0, jz1, jz2⟩ := info_parts infoICid
        obtain ⟨W10, hW10⟩ : ∃ W10, w9.alloc (.cells #[.int .u64 (x.version : Nat), .int .u64 (x.codec : Nat), .int .u64 (x.code : Nat), .string ⟨x.digest.toArray⟩] 26) = W10 := ⟨_, rfl⟩
        have hb10 : Below w.heap.size w W10 := by rw [← hW10]; exact Old.alloc hW9 _
        have Y10 : Blk W10 w9.heap.size 26 #[.int .u64 (x.version : Nat), .int .u64 (x.codec : Nat), .int .u64 (x.code : Nat), .string ⟨x.digest.toArray⟩] := by rw [← hW10]; exact Blk.new _ _ _
        have O10 := O9.alloc (.cells #[.int .u64 (x.version : Nat), .int .u64 (x.codec : Nat), .int .u64 (x.code : Nat), .string ⟨x.digest.toArray⟩] 26)
        rw [hW10] at O10
        obtain ⟨g3, cap3, W11, hrun, hown, hgr, _⟩ := append_rows (P := Tryd.prog) W10 w.heap.size 22 26 j0 _ 40 Tryd.underlying22 hj0 jz0 jz1 jz2 rfl g n cap (rows T) O10 (some ⟨w9.heap.size, 0, none⟩) 1 1 [x] rfl
          (.inr ⟨_, _, rfl, cs_one Y10⟩) (by unfold maxLen; omega) (by omega) hb10.size
        have hb11 : Below w.heap.size w W11 := hb10.grown hgr hb10.size (fun k hk => by
          have e : g = k := by simpa using hk
          exact e ▸ HC.out.2.2.1)
        rw [← rows_app] at hown
        obtain ⟨zs3, B11, _, _, _, _, hTl⟩ := own_blk hown
        have HR2 := Lib.hid (show (Builtin.append_ #[22, 22] 22 #[.slice (some ⟨g, 0, none⟩) n cap, .slice (some ⟨w9.heap.size, 0, none⟩) 1 1]).run Tryd.prog (w9.alloc (.cells #[.int .u64 (x.version : Nat), .int .u64 (x.codec : Nat), .int .u64 (x.code : Nat), .string ⟨x.digest.toArray⟩] 26)) = .ok (.slice (some ⟨g3, 0, none⟩) (n + 1) cap3) W11 from hW10 ▸ hrun)
        have HB := Lib.hid (And.intro hb11 (And.intro B11 hTl))
        clear BG8 BX8 hW8 b9 BX9 O9 hj0 jz0 jz1 jz2 hW10 hb10 Y10 O10 hrun hown hgr hb11 B11 hTl BG9
        go_wp2_with (at_builtin; refine wpList_append_run_g _ (by simp [Region.wanted, yielded]) _ _ _ _ rfl _ _ (by rfl) (by rfl) _ _ HR2.out ?_)
        refine (HM.out.1 W11 v false (n + 1) cap3 (T ++ [x]) g3 HB.out.1 HB.out.2.2 (by omega) (cs_of_blk HB.out.2.1) HM.out.2.2.2.2.2 HM.out.2.2.2.1).mono ?_
        rintro e w12 ⟨rfl, b12⟩
        go_wp2_with fail
        go_ret
        exact ⟨rfl, Old.trans HB.out.1 b12⟩

theorem fnHdTurned_law (a : Option Addr) (n c : Nat) (L : List CidL) (v : Int) (oa : Option Addr) (on oc : Nat) (O : List UInt8) (m0 m1 m2 : Int) (m3 : List UInt8) (w : World) (hL : L.length = n) (hn : n ≤ 9223372036854775807) (hf : ∀ x ∈ L, x.fit) (h : n = 0 ∨ ∃ b off, a = some ⟨b, off, none⟩ ∧ Cs w b off L)
    (hv : 0 ≤ v) (hv2 : v < 18446744073709551616) (hO : O.length = on) (hon : on ≤ 9223372036854775807) (ho : on = 0 ∨ ∃ b off, oa = some ⟨b, off, none⟩ ∧ Bs w b off O) (h0 : 0 ≤ m0 ∧ m0 < 18446744073709551616) (h1 : 0 ≤ m1 ∧ m1 < 18446744073709551616) (h2 : 0 ≤ m2 ∧ m2 < 18446744073709551616) (h3 : m3.length ≤ 9223372036854775807)
    (e0 : Er w 7) (e1 : Er w 8) (e2 : Er w 9) (e3 : Er w 13) :
    Calls Tryd.prog 3 #[.slice a n c, .int .u64 v, .slice oa on oc, .agg #[.int .u64 m0, .int .u64 m1, .int .u64 m2, .string ⟨m3.toArray⟩]] w fun e w' => e = .returned (.bool true) ∧ Below w.heap.size w w' := by
  obtain ⟨p0, rfl⟩ := Int.eq_ofNat_of_zero_le h0.1
  obtain ⟨p1, rfl⟩ := Int.eq_ofNat_of_zero_le h1.1
  obtain ⟨p2, rfl⟩ := Int.eq_ofNat_of_zero_le h2.1
  exact fnHdTurned_walk a n c L v oa on oc O ⟨p0, p1, p2, m3⟩ w hL hn hf h ⟨hv, hv2⟩ hO hon ho ⟨by have := h0.2; simp only; omega, by have := h1.2; simp only; omega, by have := h2.2; simp only; omega, h3⟩ e0 e1 e2 e3
end Go.Proofs.YtdfhfaeeejijcaaDoor
