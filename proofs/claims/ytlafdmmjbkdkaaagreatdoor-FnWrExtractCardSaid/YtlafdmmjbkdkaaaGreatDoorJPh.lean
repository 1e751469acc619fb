/-
  spec.low: so many bytes more. Conditions: as each law says.
  spec.sortedBytes: how many bytes it writes at most. Conditions: as the contract says.
  The walk of spec.sortedBytes. Conditions: as the contract says.
  spec.IndexBody, spec.IndexBytes: some text of bounded length. Conditions: as each contract says.
-/
import Derived.Test.YtlafdmmjbkdkaaaGreatDoorJMa
import Derived.Test.YtlafdmmjbkdkaaaGreatDoorJPm
import Derived.Test.YtlafdmmjbkdkaaaGreatDoorJCfr
import Derived.Deep.RegionLaw
import Derived.Test.YtlafdmmjbkdkaaaGreatDoorJSp
namespace Go.Proofs.YtlafdmmjbkdkaaaGreatDoor
open Go.RowKit

/-- n bytes. -/
def OwnB (w : World) (v : Value) (n : Nat) : Prop := ∃ l : List UInt8, l.length = n ∧ RowV w 1 v n (Lib.byteCells l)
theorem u8T : ∃ i0, Tryz.prog.info? 5 = some i0 ∧ i0.zero = some (.int .u8 0) ∧ i0.size = 1 ∧ i0.bytes = 1 := ⟨(Tryz.prog.info? 5).get (by kernel_rfl), by kernel_rfl, by kernel_rfl, by kernel_rfl, by kernel_rfl⟩
theorem u8_cell (x : Int) (h0 : 0 ≤ x) (h1 : x < 256) : Lib.byteCells [UInt8.ofNat x.toNat] = [.int .u8 x] := by
  have : (UInt8.ofNat x.toNat).toNat = x.toNat := by rw [UInt8.toNat_ofNat']; omega
  simp [Lib.byteCells, this]
  omega
theorem ownB_nil (w : World) : OwnB w (.slice none 0 0) 0 := ⟨[], rfl, rowV_nil w 1⟩
theorem OwnB.old {w w' : World} {v : Value} {n : Nat} (h : OwnB w v n) (b : Below w.heap.size w w') : OwnB w' v n := by
  obtain ⟨l, h1, h2⟩ := h
  exact ⟨l, h1, h2.old b⟩
theorem OwnB.kp {w w' : World} {v : Value} {n : Nat} {L : List Nat} (h : OwnB w v n) (b : Kp L w w') (hL : ∀ i ∈ v.ownBlock.toList, i ∉ L) : OwnB w' v n := by
  obtain ⟨l, h1, h2⟩ := h
  exact ⟨l, h1, h2.kp b hL⟩

theorem wpList_byte1 {ops : Array Oper} {rest : List Oper} {o : Oper} {a : Act} {Q : Exit → Act → World → Prop} (w : World) (hgd : o.guard = none) (s x : Operand)
    (ho : o.op = .call { callee := .builtin .append, args := #[s, x], argTypes := #[45, 45] }) (hot : o.type = 45)
    (v : Value) (n : Nat) (hs : a.eval s = v) (X : Int) (hX : 0 ≤ X ∧ X < 256) (hx : a.eval x = .slice (some ⟨w.heap.size, 0, none⟩) 1 1) (h : OwnB w v n) (hn : n + 1 ≤ 1000000000)
    (K : ∀ v' w', OwnB w' v' (n + 1) → AppT w w' v v' → wpList Tryz.prog ops Q rest (a.put o.dst v') w') : wpList Tryz.prog ops Q (o :: rest) a (w.alloc (.cells #[.int .u8 X] 5)) := by
  obtain ⟨l, hl, hR⟩ := h
  obtain ⟨i0, h1, h2, h3, h4⟩ := u8T
  have e := u8_cell X hX.1 hX.2
  have hk := wpList_lit (rest := rest) (ops := ops) (Q := Q) w hgd s x 45 5 (Lib.byteCells l) (Lib.byteCells [UInt8.ofNat X.toNat]) ho hot i0 _ 1 1 Tryz.underlying45 h1 h2 h3 h4 rfl (by decide) v n hs hR hx rfl (by rw [e]; simp [Value.oneCell']) hn (by decide)
    (fun v' w' hR' hT => K v' w' ⟨l ++ [UInt8.ofNat X.toNat], by simp [hl], by simpa [Lib.byteCells] using hR'⟩ hT)
  rw [e] at hk
  exact hk

/-- What it answers: n bytes. -/
def BPost (w : World) (v : Value) (n : Nat) (e : Ending) (w' : World) : Prop := ∃ v', e = .returned v' ∧ OwnB w' v' n ∧ AppT w w' v v'

set_option maxRecDepth 100000 in
set_option maxHeartbeats 2000000 in
theorem low_any (v : Value) (n : Nat) (x : Int) (k : Nat) (w : World) (h : OwnB w v n) (hn : n ≤ 900000000) (hk : k ≤ 8) : Calls Tryz.prog 70 #[v, .int .u64 x, .int .i64 k] w (BPost w v (n + k)) := by
  have HI := Lib.hid h
  clear h
  go_enter Tryz.func70, Tryz.ntmps70
  go_wp2_with fail
  go_loopw [0, 7] (fun v0 v7 wr => ∃ i : Nat, i ≤ k ∧ v7 = .int .i64 i ∧ OwnB wr v0 (n + i) ∧ AppT w wr v v0) (fun v0 v7 _ => k - (intOf v7).toNat)
  case atStart => exact ⟨0, Nat.zero_le _, rfl, HI.out, AppT.refl _ _⟩
  case round =>
    obtain ⟨i, hi, rfl, hB, hT⟩ := hrel
    by_cases hik : i < k
    · have hdd : decide ((i : Int) < (k : Int)) = true := by rw [decide_eq_true_eq]; omega
      go_wp2_with (at_builtin; go_must (refine wpList_byte1 _ rfl _ _ rfl rfl u0 _ rfl _ ⟨Int.emod_nonneg _ (by decide), Int.emod_lt_of_pos _ (by decide)⟩ rfl hB (by omega) ?_); intro v' w' hB' hT'; replace hB' := Lib.hid (And.intro hB' (AppT.trans hT hT')); clear hT')
      go_roundw
      case rel => exact ⟨i + 1, by omega, rfl, hB'.out.1, hB'.out.2⟩
      case measure => simp [intOf]; omega
    · have hdd : decide ((i : Int) < (k : Int)) = false := by rw [decide_eq_false_iff_not]; omega
      have hik' : i = k := by omega
      subst hik'
      replace hB := Lib.hid (And.intro hB hT)
      clear hT
      go_wp2_with fail
      refine bodyPost_ret (v := u0) (by simp [results, Tryz.results70, go_sem]) rfl ⟨_, rfl, hB.out.1, hB.out.2⟩
end Go.Proofs.YtlafdmmjbkdkaaaGreatDoor

namespace Go.Proofs.YtlafdmmjbkdkaaaGreatDoor
open Go.RowKit Go.Sort

/-- A call of a Go function, as one step of a region that draws. -/
theorem step_calls {P : Program} {ops : Array Oper} {o : Oper} {a : Act} {w : World} {K : Act → World → Prop} {Q : Exit → Act → World → Prop} {E : Prop} (hgd : o.guard = none) (f : Nat) (args : Array Value)
    (hrun : (execOp a.eval o).run P w = .ok (.enter f args) w) (hC : Calls P f args w fun e w' => ∃ v, e = .returned v ∧ K (a.put o.dst v) w') :
    if Region.wanted o (yielded ops a.tmps) = true then Oper.wp P o a w K Q else E := by
  have hw : Region.wanted o (yielded ops a.tmps) = true := by simp [Region.wanted, hgd]
  rw [if_pos hw]
  unfold Oper.wp
  rw [hrun]
  simp only [Oper.upon]
  refine Calls.mono hC ?_
  rintro e w' ⟨v, rfl, h⟩
  exact h

theorem ownB_str (w : World) (v : Value) (n : Nat) (h : OwnB w v n) (P : List UInt8) (hn : n + P.length ≤ 900000000) :
    ∃ v' w', (Builtin.append_ #[45, 9] 45 #[v, .string ⟨P.toArray⟩]).run Tryz.prog w = .ok v' w' ∧ OwnB w' v' (n + P.length) ∧ AppT w w' v v' := by
  obtain ⟨l, hl, hR⟩ := h
  obtain ⟨i0, h1, h2, h3, h4⟩ := u8T
  have hsz : (⟨P.toArray⟩ : ByteArray).size = P.length := by simp [ByteArray.size]
  have hbc : Go.byteCells ⟨P.toArray⟩ = Lib.byteCells P := by simp [Go.byteCells, Lib.byteCells]
  have hsrc := Src.ofString (P := Tryz.prog) w (tx := 9) Tryz.underlying9 ⟨P.toArray⟩
  rw [hsz, hbc] at hsrc
  obtain ⟨v', w', hrun, hR', hT⟩ := rowV_append w 45 9 5 i0 _ 1 1 Tryz.underlying45 h1 h2 h3 h4 rfl (by decide) v n _ hR _ P.length _ hsrc (by omega) (by decide)
  exact ⟨v', w', hrun, ⟨l ++ P, by simp [hl], by simpa [Lib.byteCells] using hR'⟩, hT⟩

theorem ownB_rows (w : World) (v : Value) (n : Nat) (h : OwnB w v n) (u : Value) (m : Nat) (hu : OwnB w u m) (hn : n + m ≤ 900000000) :
    ∃ v' w', (Builtin.append_ #[45, 45] 45 #[v, u]).run Tryz.prog w = .ok v' w' ∧ OwnB w' v' (n + m) ∧ AppT w w' v v' := by
  obtain ⟨l, hl, hR⟩ := h
  obtain ⟨P, hP, hU⟩ := hu
  obtain ⟨i0, h1, h2, h3, h4⟩ := u8T
  have hsrc : Src Tryz.prog 1 45 u m (Lib.byteCells P) w := by
    obtain ⟨hp, ⟨rfl, rfl⟩ | ⟨g, cap, rfl, _, _, _, hc, _⟩⟩ := hU
    · have : P = [] := List.eq_nil_of_length_eq_zero hP
      subst this
      exact Src.ofNil w Tryz.underlying45 0
    · exact Src.ofSlice w Tryz.underlying45 ⟨g, 0, none⟩ m cap _ hp (fun j x hx => by rw [add_at, Nat.zero_add]; exact hc j x hx) (fun x hx => by
        simp only [Lib.byteCells, List.mem_map] at hx
        obtain ⟨_, _, rfl⟩ := hx
        rfl)
  obtain ⟨v', w', hrun, hR', hT⟩ := rowV_append w 45 45 5 i0 _ 1 1 Tryz.underlying45 h1 h2 h3 h4 rfl (by decide) v n _ hR u m _ hsrc (by omega) (by decide)
  exact ⟨v', w', hrun, ⟨l ++ P, by simp [hl, hP], by simpa [Lib.byteCells] using hR'⟩, hT⟩
theorem ownB_lt {w : World} {v : Value} {n : Nat} (h : OwnB w v n) : ∀ i ∈ v.ownBlock.toList, i < w.heap.size := by
  obtain ⟨l, _, hR⟩ := h
  exact hR.lt
theorem ownB_form {w : World} {v : Value} {n : Nat} (h : OwnB w v n) : ∃ b c, v = .slice b n c := by
  obtain ⟨l, hl, _, ⟨rfl, h1⟩ | ⟨g, cap, rfl, _⟩⟩ := h
  · exact ⟨none, 0, by rw [h1]⟩
  · exact ⟨_, cap, rfl⟩

/-- What it answers: bytes, N at most. -/
def SPost (w : World) (v : Value) (N : Nat) (e : Ending) (w' : World) : Prop := ∃ v' n, e = .returned v' ∧ OwnB w' v' n ∧ 4 ≤ n ∧ n ≤ N ∧ AppT w w' v v'
end Go.Proofs.YtlafdmmjbkdkaaaGreatDoor

namespace Go.Proofs.YtlafdmmjbkdkaaaGreatDoor
open Go.RowKit Go.Sort

theorem ownN_at {K : IntKind} {w : World} {b : Option Addr} {n c : Nat} {l : List Int} (h : OwnN K w (.slice b n c) l) (i : Nat) (hi : i < l.length) : ∃ g, b = some ⟨g, 0, none⟩ ∧ l.length ≤ c ∧ g < w.heap.size ∧ w.cell? ⟨g, i, none⟩ = some (.int K l[i]) := by
  obtain ⟨b', c', hv, hf⟩ := ownN_form h
  cases hv
  exact hf i hi
theorem entS_at {w : World} {b : Option Addr} {n c : Nat} (h : EntS w (.slice b n c) n) (i : Nat) (hi : i < n) : ∃ g, b = some ⟨g, 0, none⟩ ∧ n ≤ c ∧ EntR w g n := by
  obtain ⟨b', c', hv, hf⟩ := entS_form h
  cases hv
  exact hf i hi
theorem low4 (v : Value) (n : Nat) (x : Int) (w : World) (h : OwnB w v n) (hn : n ≤ 900000000) : Calls Tryz.prog 70 #[v, .int .u64 x, .int .i64 4] w (BPost w v (n + 4)) := low_any v n x 4 w h hn (by omega)
theorem low8 (v : Value) (n : Nat) (x : Int) (w : World) (h : OwnB w v n) (hn : n ≤ 900000000) : Calls Tryz.prog 70 #[v, .int .u64 x, .int .i64 8] w (BPost w v (n + 8)) := low_any v n x 8 w h hn (by omega)
theorem ownB_form' {w : World} {v : Value} {n : Nat} (h : OwnB w v n) : ∃ b c, v = .slice b n c := ownB_form h

set_option maxRecDepth 100000 in
set_option maxHeartbeats 8000000 in
theorem sorted_any (v : Value) (n0 : Nat) (vl : Value) (n : Nat) (w : World) (hB : OwnB w v n0) (hn0 : n0 ≤ 800000000) (h : EntS w vl n) (hn : n ≤ 50) (hsep : ∀ i ∈ vl.ownBlock.toList, i ∉ v.ownBlock.toList) :
    Calls Tryz.prog 68 #[v, vl] w (SPost w v (n0 + 600000)) := by
  have H := Lib.hid (And.intro hB (And.intro h hsep))
  clear hB h hsep
  have e70 : ∀ args w, (callFunc 70 args).run Tryz.prog w = .ok (.enter 70 args) w := enters_of Tryz.func70 (by kernel_rfl) rfl
  go_enter Tryz.func68, Tryz.ntmps68
  go_wp2_with fail
  refine (widths_any vl n w H.out.2.1 (by omega)).mono ?_
  rintro e w1 ⟨⟨va, la, rfl, hA, hla, hga⟩, b1⟩
  obtain ⟨ba, ca, rfl, _⟩ := ownN_form hA
  have hB1 := H.out.1.old b1
  have hE1 := H.out.2.1.old b1
  have hlow := fun X => low4 v n0 X w1 hB1 (by omega)
  have hna50 : (la.length : Int) ≤ 50 := by omega
  have HW := Lib.hid (And.intro hlow (And.intro hA (And.intro hga (And.intro b1 (And.intro hE1 hB1)))))
  clear hA hga b1 hB1 hE1 hlow
  go_wp2_with fail
  refine (HW.out.1 _).mono ?_
  rintro e w2 ⟨v1, rfl, hB2, hT2⟩
  have hE2 : EntS w2 vl n := HW.out.2.2.2.2.1.kp hT2.1 H.out.2.2
  have hva0 : ∀ i ∈ (Value.slice ba la.length ca).ownBlock.toList, i ∉ v.ownBlock.toList := fun i hi h => by
    have := HW.out.2.2.1 i hi
    have := ownB_lt H.out.1 i h
    omega
  have hA2 : OwnN .i64 w2 (.slice ba la.length ca) la := RowV.kp HW.out.2.1 hT2.1 hva0
  have hT02 : AppT w w2 v v1 := (AppT.old (AppT.refl w v) HW.out.2.2.2.1).trans hT2
  have hva1 : ∀ i ∈ (Value.slice ba la.length ca).ownBlock.toList, i ∉ v1.ownBlock.toList := fun i hi h => by
    rcases hT2.2 i h with h1 | h1
    · exact hva0 i hi h1
    · have := RowV.lt HW.out.2.1 i hi
      omega
  have H2 := Lib.hid (And.intro hE2 (And.intro hA2 (And.intro hT02 (And.intro hva1 hB2))))
  clear hE2 hA2 hT02 hva1 hB2 hva0 hT2 HW
  go_wp2_with fail
  refine (byDigest vl n w2 H2.out.1 (by omega)).mono ?_
  rintro e w3 ⟨⟨vs, rfl, hE3, hgs⟩, b3⟩
  obtain ⟨bs, cs, rfl, _⟩ := entS_form hE3
  have hvs1 : ∀ i ∈ (Value.slice bs n cs).ownBlock.toList, i ∉ v1.ownBlock.toList := fun i hi h => by
    have := hgs i hi
    have := ownB_lt H2.out.2.2.2.2 i h
    omega
  have H3 := Lib.hid (And.intro hE3 (And.intro (RowV.old H2.out.2.1 b3) (And.intro (H2.out.2.2.1.old b3) (And.intro H2.out.2.2.2.1 (And.intro (H2.out.2.2.2.2.old b3) hvs1)))))
  clear hE3 hgs b3 hvs1 H2
  go_wp2_with fail
  go_loopw [0, 23] (fun v0 v23 wr => ∃ (i r : Nat), i ≤ la.length ∧ v23 = .int .i64 i ∧ OwnB wr v0 r ∧ 4 ≤ r ∧ r ≤ n0 + 4 + i * 11000 ∧ AppT w3 wr v1 v0) (fun v0 v23 _ => la.length - (intOf v23).toNat)
  case atStart => exact ⟨0, n0 + 4, Nat.zero_le _, rfl, H3.out.2.2.2.2.1, by omega, by omega, AppT.refl _ _⟩
  case round =>
    obtain ⟨i, r, hi, rfl, hO, hr4, hr, hT⟩ := hrel
    by_cases hik : i < la.length
    · have hdd : decide ((i : Int) < (la.length : Int)) = true := by rw [decide_eq_true_eq]; omega
      have hAr : OwnN .i64 wr (.slice ba la.length ca) la := RowV.kp H3.out.2.1 hT.1 H3.out.2.2.2.1
      have hEr : EntS wr (.slice bs n cs) n := H3.out.1.kp hT.1 H3.out.2.2.2.2.2
      obtain ⟨g, rfl, hnc, hgw, hcell⟩ := ownN_at hAr i hik
      obtain ⟨X, hX⟩ : ∃ X, la[i] = X := ⟨_, rfl⟩
      rw [hX] at hcell
      have hiI : (i : Int) < (la.length : Int) := by omega
      have HR := Lib.hid (And.intro hO (And.intro hT hEr))
      clear hAr hO hT hEr hX
      go_wp2_with fail
      clear hcell
      go_loopw [9, 29] (fun v9 v29 wj => ∃ (j m : Nat), j ≤ n ∧ v29 = .int .i64 j ∧ OwnB wj v9 m ∧ m ≤ j * 208 ∧ AppT wr wj (.slice none 0 0) v9) (fun _ v29 _ => n - (intOf v29).toNat)
      case atStart => exact ⟨0, 0, Nat.zero_le _, rfl, ownB_nil _, Nat.le_refl _, AppT.refl _ _⟩
      case round =>
        obtain ⟨j, m, hj, rfl, hOj, hm, hTj⟩ := hrel
        by_cases hjn : j < n
        · have hdj : decide ((j : Int) < (n : Int)) = true := by rw [decide_eq_true_eq]; omega
          obtain ⟨gs, rfl, hnc2, hE⟩ := entS_at (HR.out.2.2.old hTj.below) j hjn
          obtain ⟨x, hx, x0, x1, x2, x3, x4⟩ := entR_cells hE j hjn
          have hgl := World.block_lt_of_cell? wr _ x0
          obtain ⟨W1, hW1⟩ : ∃ W1, wr.alloc (.cells (entC x).toArray 96) = W1 := ⟨_, rfl⟩
          obtain ⟨dd, hdd'⟩ : ∃ dd, wr.heap.size = dd := ⟨_, rfl⟩
          have N1 : Blk W1 dd 96 (entC x).toArray := by rw [← hW1, ← hdd']; exact Blk.new _ _ _
          have b1 : Below wr.heap.size wr W1 := by rw [← hW1]; exact Old.alloc (Below.refl _ _) _
          have e3 : W1.cell? ⟨dd, 3, none⟩ = some (.string ⟨x.1.digest.toArray⟩) := N1.cell 3
          have e4 : W1.cell? ⟨dd, 4, none⟩ = some (.int .u64 (x.2 : Nat)) := N1.cell 4
          have hO1 : OwnB W1.drew u9 m := (hOj.old b1).old (Below.refl W1.heap.size W1).drew
          have hT1 := (hTj.old b1).old (Below.refl W1.heap.size W1).drew
          have hdl := hx.1
          obtain ⟨v', w', hap, hO2, hT2⟩ := ownB_str W1.drew u9 m hO1 x.1.digest (by have := Nat.mul_le_mul_right 208 hj; omega)
          have hddu : dd ∉ u9.ownBlock.toList := fun h => by have := ownB_lt hOj dd h; omega
          have e4' : w'.cell? ⟨dd, 4, none⟩ = some (.int .u64 (x.2 : Nat)) := (hT2.1.cell (p := ⟨dd, 4, none⟩) N1.lt hddu).trans e4
          have hl8 := low8 v' (m + x.1.digest.length) (x.2 : Nat) w' hO2 (by have := Nat.mul_le_mul_right 208 hj; omega)
          have hjI : (j : Int) < (n : Int) := by omega
          have hW1' : wr.alloc (.cells #[.int .u64 (x.1.version : Nat), .int .u64 (x.1.codec : Nat), .int .u64 (x.1.code : Nat), .string ⟨x.1.digest.toArray⟩, .int .u64 (x.2 : Nat)] 96) = W1 := hW1
          have HAP := Lib.hid hap
          have HJ := Lib.hid (And.intro hl8 (And.intro hT1 (And.intro hT2 (And.intro (hOj.old b1) (And.intro (hTj.old b1) b1)))))
          clear hE hx hTj hOj hW1 N1 b1 hap hO2 hT2 hl8 hT1 hO1 hddu
          go_wp2_with fail
          · clear hW1' x0 x1 x2 x3 x4
            go_region_law (first | (refine step_append_run rfl (.tmp 39) (.tmp 42) 45 9 rfl u9 (.string ⟨x.1.digest.toArray⟩) (by simp [Act.eval]) (by simp [Act.eval]) _ _ HAP.out ?_) | (refine step_calls rfl 70 #[v', .int .u64 (x.2 : Nat), .int .i64 8] (by simp [go_sem, Act.eval, e70]) ?_; refine HJ.out.1.mono ?_; rintro e w4 ⟨v4, rfl, hO4, hT4⟩; refine ⟨v4, rfl, ?_⟩; replace hO4 := Lib.hid (And.intro hO4 hT4); clear hT4))
            all_goals go_wp2_with fail
            all_goals try go_roundw
            all_goals first | (simp [intOf]; omega) | exact ⟨j + 1, m + x.1.digest.length + 8, by omega, by go_num, hO4.out.1, by omega, (HJ.out.2.1.trans HJ.out.2.2.1).trans hO4.out.2⟩
          · exact ⟨⟨j + 1, m, by omega, by go_num, HJ.out.2.2.2.1, by omega, HJ.out.2.2.2.2.1⟩, by simp [intOf]; omega⟩
        · have hdj : decide ((j : Int) < (n : Int)) = false := by rw [decide_eq_false_iff_not]; omega
          have hjn' : j = n := by omega
          subst hjn'
          have hOo : OwnB wr u0 r := HR.out.1.old hTj.below
          have hToo := HR.out.2.1.old hTj.below
          have hsz := hTj.below.size
          have hlw := fun Y => low4 u0 r Y wr hOo (by have := Nat.mul_le_mul_right 11000 hi; omega)
          have hrb : ∀ i ∈ u9.ownBlock.toList, i ∉ u0.ownBlock.toList := fun k hk h => by
            have h1 := (hTj.2 k hk).resolve_left (by simp [Value.ownBlock])
            have h2 := ownB_lt HR.out.1 k h
            omega
          obtain ⟨b9, c9, h9⟩ := ownB_form hOj
          subst h9
          have HJ := Lib.hid (And.intro hlw (And.intro hOj (And.intro hOo (And.intro hToo hrb))))
          clear hlw hOj hTj hOo hToo hrb
          go_wp2_with fail
          refine (HJ.out.1 _).mono ?_
          rintro e w4 ⟨v4, rfl, hO4, hT4⟩
          have hR4 : OwnB w4 (.slice b9 m c9) m := HJ.out.2.1.kp hT4.1 HJ.out.2.2.2.2
          have hr4b : ∀ i ∈ (Value.slice b9 m c9).ownBlock.toList, i ∉ v4.ownBlock.toList := fun k hk h => by
            rcases hT4.2 k h with h1 | h1
            · exact HJ.out.2.2.2.2 k hk h1
            · have := ownB_lt HJ.out.2.1 k hk
              omega
          have hl8 := fun Y => low8 v4 (r + 4) Y w4 hO4 (by have := Nat.mul_le_mul_right 11000 hi; omega)
          have H4 := Lib.hid (And.intro hl8 (And.intro hR4 (And.intro (HJ.out.2.2.2.1.trans hT4) hr4b)))
          clear hl8 hR4 hO4 hT4 hr4b HJ
          go_wp2_with fail
          refine (H4.out.1 _).mono ?_
          rintro e w5 ⟨v5, rfl, hO5, hT5⟩
          have hR5 : OwnB w5 (.slice b9 m c9) m := H4.out.2.1.kp hT5.1 H4.out.2.2.2
          obtain ⟨v6, w6, hap6, hO6, hT6⟩ := ownB_rows w5 v5 (r + 4 + 8) hO5 (.slice b9 m c9) m hR5 (by have := Nat.mul_le_mul_right 11000 hi; omega)
          have HAP6 := Lib.hid hap6
          have H6 := Lib.hid (And.intro hO6 ((H4.out.2.2.1.trans hT5).trans hT6))
          clear hR5 hO5 hT5 hap6 hO6 hT6 H4
          go_wp2_with (at_builtin; go_must (refine wpList_append_run rfl _ _ 45 45 rfl _ _ rfl rfl _ _ HAP6.out ?_))
          exact ⟨⟨i + 1, r + 4 + 8 + m, by omega, by go_num, H6.out.1, by omega, by have := Nat.mul_le_mul_right 208 hn; omega, H6.out.2⟩, by simp [intOf]; omega⟩
    · have hdd : decide ((i : Int) < (la.length : Int)) = false := by rw [decide_eq_false_iff_not]; omega
      have hT0 := H3.out.2.2.1.trans hT
      have HO := Lib.hid (And.intro hO hT0)
      clear hO hT hT0
      go_wp2_with fail
      refine bodyPost_ret (v := u0) (by simp [results, Tryz.results68, go_sem]) rfl ⟨u0, r, rfl, HO.out.1, hr4, by have := Nat.mul_le_mul_right 11000 (Nat.le_trans hi (Nat.le_trans hla hn)); omega, HO.out.2⟩
end Go.Proofs.YtlafdmmjbkdkaaaGreatDoor

namespace Go.Proofs.YtlafdmmjbkdkaaaGreatDoor
open Go.RowKit Go.Sort

/-- What it answers: a text of at most N bytes. -/
def XPost (w : World) (N : Nat) (e : Ending) (w' : World) : Prop := ∃ S : List UInt8, e = .returned (.string ⟨S.toArray⟩) ∧ S.length ≤ N ∧ Below w.heap.size w w'

theorem ownB_text {w : World} {v : Value} {n : Nat} (h : OwnB w v n) (hn : 0 < n) : ∃ g c l, v = .slice (some ⟨g, 0, none⟩) n c ∧ l.length = n ∧ Bs w g 0 l := by
  obtain ⟨l, hl, h0, ⟨rfl, h1⟩ | ⟨g, cap, rfl, _, _, _, hc, _⟩⟩ := h
  · omega
  · exact ⟨g, cap, l, rfl, hl, fun j hj => by
      rw [Nat.zero_add]
      exact hc j _ (by simp [Lib.byteCells, hj])⟩
theorem AppT.below' {w w' : World} {v : Value} (h : AppT w w' (.slice none 0 0) v) : Below w.heap.size w w' := Kp.below h.1

set_option maxRecDepth 100000 in
set_option maxHeartbeats 8000000 in
theorem body0_any (vl : Value) (n : Nat) (w : World) (h : EntS w vl n) (hn : n ≤ 50) :
    Calls Tryz.prog 45 #[vl, .int .u64 1024] w (XPost w 40000000) := by
  have hs := sorted_any (.slice none 0 0) 0 vl n w (ownB_nil w) (by omega) h hn (by simp [Value.ownBlock])
  have H := Lib.hid hs
  clear h hs
  go_enter Tryz.func45, Tryz.ntmps45
  go_wp2_with fail
  refine H.out.mono ?_
  rintro e w1 ⟨v1, m, rfl, hO, h4, hm, hT⟩
  obtain ⟨g, c, l, rfl, hl, hbs⟩ := ownB_text hO (by omega)
  have hcv := conv_str (P := Tryz.prog) Tryz.underlying45 Tryz.underlying5 Tryz.underlying9 (c := c) hbs rfl
  have hlm := Lib.hid hl
  subst hl
  have HT := Lib.hid hT.below
  clear hO hT hbs
  go_wp2_with fail
  refine bodyPost_ret (v := .string ⟨l.toArray⟩) (by simp [results, Tryz.results45, go_sem]) rfl ⟨l, rfl, by omega, HT.out⟩

set_option maxRecDepth 100000 in
set_option maxHeartbeats 8000000 in
theorem body1_any (vl : Value) (n : Nat) (w : World) (h : EntS w vl n) (hn : n ≤ 50) :
    Calls Tryz.prog 45 #[vl, .int .u64 1025] w (XPost w 40000000) := by
  have H := Lib.hid h
  clear h
  go_enter Tryz.func45, Tryz.ntmps45
  go_wp2_with fail
  refine (codes_any vl n w H.out (by omega)).mono ?_
  rintro e w1 ⟨⟨vc, lc, rfl, hC, hlc, _⟩, b1⟩
  obtain ⟨bc, cc, rfl, _⟩ := ownN_form hC
  have hsz1 := b1.size
  have hc50 : (lc.length : Int) ≤ 50 := by omega
  have hlow := fun X => low4 (.slice none 0 0) 0 X w1 (ownB_nil w1) (by omega)
  have H1 := Lib.hid (And.intro hlow (And.intro hC b1))
  clear hlow hC b1
  go_wp2_with fail
  refine (H1.out.1 _).mono ?_
  rintro e w2 ⟨v1, rfl, hB2, hT2⟩
  have b12 := hT2.below
  have hv1 : ∀ i ∈ v1.ownBlock.toList, w1.heap.size ≤ i := fun i hi => (hT2.2 i hi).resolve_left (by simp [Value.ownBlock])
  have hvc : ∀ i ∈ (Value.slice bc lc.length cc).ownBlock.toList, i ∉ v1.ownBlock.toList := fun i hi h => by
    have := hv1 i h
    have := RowV.lt H1.out.2.1 i hi
    omega
  have hvl : ∀ i ∈ vl.ownBlock.toList, i < w1.heap.size := fun i hi => Nat.lt_of_lt_of_le (H.out.lt i hi) H1.out.2.2.size
  have H2 := Lib.hid (And.intro (RowV.old H1.out.2.1 b12) (And.intro (H.out.old (Old.trans H1.out.2.2 b12)) (And.intro (Old.trans H1.out.2.2 b12) (And.intro hB2 (And.intro hv1 (And.intro hvc (And.intro hvl b12.size)))))))
  clear hB2 hT2 b12 hv1 hvc hvl H1
  go_wp2_with fail
  go_loopw [6, 22] (fun v6 v22 wr => ∃ (i r : Nat), i ≤ lc.length ∧ v22 = .int .i64 i ∧ OwnB wr v6 r ∧ 4 ≤ r ∧ r ≤ 4 + i * 600008 ∧ AppT w2 wr v1 v6) (fun _ v22 _ => lc.length - (intOf v22).toNat)
  case atStart => exact ⟨0, 0 + 4, Nat.zero_le _, rfl, H2.out.2.2.2.1, by omega, by omega, AppT.refl _ _⟩
  case round =>
    obtain ⟨i, r, hi, rfl, hO, hr4, hr, hT⟩ := hrel
    by_cases hik : i < lc.length
    · have hdd : decide ((i : Int) < (lc.length : Int)) = true := by rw [decide_eq_true_eq]; omega
      have hCr : OwnN .u64 wr (.slice bc lc.length cc) lc := RowV.kp H2.out.1 hT.1 H2.out.2.2.2.2.2.1
      have hvl6 : ∀ i ∈ vl.ownBlock.toList, i ∉ u6.ownBlock.toList := fun k hk h => by
        have h1 := H2.out.2.2.2.2.2.2.1 k hk
        have h3 := H2.out.2.2.2.2.2.2.2
        rcases hT.2 k h with h2 | h2
        · have := H2.out.2.2.2.2.1 k h2; omega
        · omega
      have hEr : EntS wr vl n := H2.out.2.1.kp hT.1 (fun k hk h => by have := H2.out.2.2.2.2.2.2.1 k hk; have := H2.out.2.2.2.2.1 k h; omega)
      obtain ⟨g, rfl, hnc, hgw, hcell⟩ := ownN_at hCr i hik
      obtain ⟨X, hX⟩ : ∃ X, lc[i] = X := ⟨_, rfl⟩
      rw [hX] at hcell
      have hiI : (i : Int) < (lc.length : Int) := by omega
      have hr2 : r ≤ 40000000 := by have := Nat.mul_le_mul_right 600008 hi; omega
      have hl8 := low8 u6 r X wr hO (by omega)
      have HR := Lib.hid (And.intro hl8 (And.intro hT (And.intro hEr (And.intro hvl6 hr))))
      clear hCr hO hT hEr hX hvl6 hl8 hr
      go_wp2_with fail
      clear hcell
      refine HR.out.1.mono ?_
      rintro e w4 ⟨v4, rfl, hO4, hT4⟩
      have hE4 : EntS w4 vl n := HR.out.2.2.1.kp hT4.1 HR.out.2.2.2.1
      have H4 := Lib.hid (And.intro (coded_any vl n X w4 hE4 (by omega)) (And.intro hO4 (HR.out.2.1.trans hT4)))
      clear hE4 hO4 hT4
      go_wp2_with fail
      refine H4.out.1.mono ?_
      rintro e w5 ⟨⟨vd, m, rfl, hE5, hm, hgd⟩, b5⟩
      have hsd := sorted_any v4 (r + 8) vd m w5 (H4.out.2.1.old b5) (by omega) hE5 (by omega) (fun k hk h => by have := hgd k hk; have := ownB_lt H4.out.2.1 k h; omega)
      have H5 := Lib.hid (And.intro hsd (H4.out.2.2.old b5))
      clear hsd hE5 hgd b5
      go_wp2_with fail
      refine H5.out.1.mono ?_
      rintro e w6 ⟨v6, r6, rfl, hO6, hr6, hr6', hT6⟩
      have H6 := Lib.hid (And.intro hO6 (H5.out.2.trans hT6))
      clear hO6 hT6
      go_wp2_with fail
      go_roundw
      case rel => exact ⟨i + 1, r6, by omega, by go_num, H6.out.1, by omega, by have := HR.out.2.2.2.2; omega, H6.out.2⟩
      case measure => simp [intOf]; omega
    · have hdd : decide ((i : Int) < (lc.length : Int)) = false := by rw [decide_eq_false_iff_not]; omega
      obtain ⟨g, c, l, rfl, hl, hbs⟩ := ownB_text hO (by omega)
      have hcv := conv_str (P := Tryz.prog) Tryz.underlying45 Tryz.underlying5 Tryz.underlying9 (c := c) hbs rfl
      have hb : Below w.heap.size w wr := ((Kp.of_below H2.out.2.2.1 []).step hT.1 (fun k hk => .inr (Nat.le_trans hsz1 (H2.out.2.2.2.2.1 k hk)))).below
      have hlr : l.length ≤ 40000000 := by have := Nat.mul_le_mul_right 600008 hi; omega
      have hlm := Lib.hid hl
      subst hl
      have HT := Lib.hid hb
      clear hO hT hbs hb
      go_wp2_with fail
      refine bodyPost_ret (v := .string ⟨l.toArray⟩) (by simp [results, Tryz.results45, go_sem]) rfl ⟨l, rfl, hlr, HT.out⟩

set_option maxRecDepth 100000 in
set_option maxHeartbeats 4000000 in
theorem indexBytes_any (vl : Value) (n kind : Nat) (w : World) (h : EntS w vl n) (hn : n ≤ 50) (hk : kind = 1024 ∨ kind = 1025) :
    Calls Tryz.prog 20 #[vl, .int .u64 kind] w (XPost w 50000000) := by
  have hA := fun W => specVarint_cv (kind : Int) W (by omega) (by omega)
  rw [Int.toNat_natCast] at hA
  have hl1 := Lib.uvarint_length64 (x := kind) (by omega)
  obtain ⟨U, hU⟩ : ∃ U, Lib.uvarint kind = U := ⟨_, rfl⟩
  rw [hU] at hA hl1
  have hBd : ∀ W, Below w.heap.size w W → Calls Tryz.prog 45 #[vl, .int .u64 kind] W (XPost W 40000000) := fun W b => by
    rcases hk with rfl | rfl
    · exact body0_any vl n W (h.old b) hn
    · exact body1_any vl n W (h.old b) hn
  have happ := sp_app
  obtain ⟨X, hX⟩ : ∃ X : Int, (kind : Int) = X := ⟨_, rfl⟩
  rw [hX] at hA hBd ⊢
  have H := Lib.hid (And.intro hA hBd)
  clear hA hBd hU h hk hX
  go_enter Tryz.func20, Tryz.ntmps20
  go_wp2_with fail
  go_region_held (fun _ => True) (first | trivial | go_keep) (first | (go_at_call 26; refine (H.out.1 _).mono ?_; rintro _ wA ⟨vA, rfl, hbA, HA⟩; have iA := HA.out wA (Below.refl _ _)) | (go_at_call 45; refine (H.out.2 _ ?_).mono ?_; exact (((Below.refl w.heap.size w).drew).trans hbA); rintro _ wB ⟨SB, rfl, hSB, hbB⟩; have iA2 := HA.out wB hbB))
  all_goals go_wp2_with fail
  all_goals refine bodyPost_ret (v := .string ⟨(U ++ SB).toArray⟩) (by simp [results, Tryz.results20, go_sem]) rfl ⟨U ++ SB, rfl, by simp; omega, Old.trans (((Below.refl w.heap.size w).drew).trans hbA) hbB⟩
end Go.Proofs.YtlafdmmjbkdkaaaGreatDoor
