/-
  spec.sortedBytes: the bytes of an index sorted by digests. Conditions: as each law says.
  PutUint32, PutUint64 into a row of bytes; (index.digestRecord).write. Conditions: as each contract says.
-/
import Derived.Test.YtcljffldbnoljaaGreatDoorJQp
import Derived.Deep.RegionLaw
import Derived.Test.YtcljffldbnoljaaGreatDoorJVi
import Derived.Test.YtcljffldbnoljaaGreatDoorJBv
import Derived.Lib.Endian
namespace Go.Proofs.YtcljffldbnoljaaGreatDoor
open Go.RowKit Go.Sort

/-- A row of an index: a digest, its offset. -/
def rowY (d : List UInt8) (off : Nat) : List UInt8 := d ++ Lib.leBytes 8 off
/-- The rows of one width. -/
def rowsY (S : List EntL) (n : Int) : List UInt8 := (S.filter (fun x => decide ((x.c.digest.length : Int) = n))).flatMap fun x => rowY x.c.digest x.off
/-- One width's part. -/
def widthY (S : List EntL) (n : Int) : List UInt8 := Lib.leBytes 4 (n + 8).toNat ++ Lib.leBytes 8 (rowsY S n).length ++ rowsY S n
/-- All widths. -/
def sortedY (S : List EntL) (ws : List Int) : List UInt8 := Lib.leBytes 4 ws.length ++ ws.flatMap (widthY S)

theorem ownL_str (w : World) (v : Value) (l : List UInt8) (h : OwnL w v l) (P : List UInt8) (hn : l.length + P.length ≤ 900000000) :
    ∃ v' w', (Builtin.append_ #[47, 9] 47 #[v, .string ⟨P.toArray⟩]).run Tryz.prog w = .ok v' w' ∧ OwnL w' v' (l ++ P) ∧ AppT w w' v v' := by
  obtain ⟨i0, h1, h2, h3, h4⟩ := u8T
  have hsz : (⟨P.toArray⟩ : ByteArray).size = P.length := by simp [ByteArray.size]
  have hbc : Go.byteCells ⟨P.toArray⟩ = Lib.byteCells P := by simp [Go.byteCells, Lib.byteCells]
  have hsrc := Src.ofString (P := Tryz.prog) w (tx := 9) Tryz.underlying9 ⟨P.toArray⟩
  rw [hsz, hbc] at hsrc
  obtain ⟨v', w', hrun, hR', hT⟩ := rowV_append w 47 9 5 i0 _ 1 1 Tryz.underlying47 h1 h2 h3 h4 rfl (by decide) v l.length _ h _ P.length _ hsrc (by omega) (by decide)
  exact ⟨v', w', hrun, by unfold OwnL; rw [List.length_append, Lib.byteCells_append]; exact hR', hT⟩

theorem ownL_rows (w : World) (v : Value) (l : List UInt8) (h : OwnL w v l) (u : Value) (P : List UInt8) (hu : OwnL w u P) (hn : l.length + P.length ≤ 900000000) :
    ∃ v' w', (Builtin.append_ #[47, 47] 47 #[v, u]).run Tryz.prog w = .ok v' w' ∧ OwnL w' v' (l ++ P) ∧ AppT w w' v v' := by
  obtain ⟨i0, h1, h2, h3, h4⟩ := u8T
  have hsrc : Src Tryz.prog 1 47 u P.length (Lib.byteCells P) w := by
    obtain ⟨hp, ⟨rfl, hz⟩ | ⟨g, cap, rfl, _, _, _, hc, _⟩⟩ := hu
    · have : P = [] := List.eq_nil_of_length_eq_zero hz
      subst this
      exact Src.ofNil w Tryz.underlying47 0
    · exact Src.ofSlice w Tryz.underlying47 ⟨g, 0, none⟩ P.length cap _ hp (fun j x hx => by rw [add_at, Nat.zero_add]; exact hc j x hx) (fun x hx => by
        simp only [Lib.byteCells, List.mem_map] at hx
        obtain ⟨_, _, rfl⟩ := hx
        rfl)
  obtain ⟨v', w', hrun, hR', hT⟩ := rowV_append w 47 47 5 i0 _ 1 1 Tryz.underlying47 h1 h2 h3 h4 rfl (by decide) v l.length _ h u P.length _ hsrc (by omega) (by decide)
  exact ⟨v', w', hrun, by unfold OwnL; rw [List.length_append, Lib.byteCells_append]; exact hR', hT⟩
theorem ownN_at {K : IntKind} {w : World} {b : Option Addr} {n c : Nat} {l : List Int} (h : OwnN K w (.slice b n c) l) (i : Nat) (hi : i < l.length) : ∃ g, b = some ⟨g, 0, none⟩ ∧ l.length ≤ c ∧ g < w.heap.size ∧ w.cell? ⟨g, i, none⟩ = some (.int K l[i]) := by
  obtain ⟨b', c', hv, hf⟩ := ownN_form h
  cases hv
  exact hf i hi

theorem rowsY_take {S : List EntL} {n : Int} {j : Nat} (hj : j < S.length) : rowsY (S.take (j + 1)) n = rowsY (S.take j) n ++ (if ((S[j].c.digest.length : Int) = n) then rowY S[j].c.digest S[j].off else []) := by
  unfold rowsY
  rw [List.take_succ_eq_append_getElem hj, List.filter_append, List.flatMap_append]
  congr 1
  by_cases h : (S[j].c.digest.length : Int) = n
  · rw [if_pos h]; simp [h]
  · rw [if_neg h]; simp [h]
theorem rowsY_len {S : List EntL} {n : Int} (hS : ∀ x ∈ S, x.c.digest.length ≤ 200) : (rowsY S n).length ≤ S.length * 208 := by
  unfold rowsY
  induction S with
  | nil => simp
  | cons x S ih =>
    have h1 := ih (fun y hy => hS y (List.mem_cons_of_mem _ hy))
    have h2 := hS x (List.mem_cons_self)
    rw [List.length_cons, Nat.succ_mul]
    by_cases h : (x.c.digest.length : Int) = n
    · rw [List.filter_cons_of_pos (by simpa using h), List.flatMap_cons, List.length_append]
      have : (rowY x.c.digest x.off).length = x.c.digest.length + 8 := by simp [rowY, Lib.leBytes_length]
      omega
    · rw [List.filter_cons_of_neg (by simpa using h)]
      omega

/-- What it answers: the bytes. -/
def SbPost (w : World) (v : Value) (l : List UInt8) (L : List EntL) (e : Ending) (w' : World) : Prop :=
  ∃ v' S ws, e = .returned v' ∧ OwnL w' v' (l ++ sortedY S ws) ∧ (S.Perm L ∧ S.Pairwise (fun a b => entLt b a = false)) ∧ (KeysS (fun x => (x.c.digest.length : Int)) L ws ∧ ws.length ≤ L.length) ∧ AppT w w' v v'

set_option maxRecDepth 100000 in
set_option maxHeartbeats 8000000 in
theorem sorted_eq (v : Value) (l0 : List UInt8) (vl : Value) (L : List EntL) (w : World) (hB : OwnL w v l0) (hn0 : l0.length ≤ 800000000) (h : EnS w vl L) (hG : ∀ x ∈ L, EnG x) (hn : L.length ≤ 60) (hsep : ∀ i ∈ vl.ownBlock.toList, i ∉ v.ownBlock.toList) :
    Calls Tryz.prog 30 #[v, vl] w (SbPost w v l0 L) := by
  have H := Lib.hid (And.intro hB (And.intro h (And.intro hsep hG)))
  clear hB h hsep hG
  have e70 : ∀ args w, (callFunc 32 args).run Tryz.prog w = .ok (.enter 32 args) w := enters_of Tryz.func32 (by kernel_rfl) rfl
  go_enter Tryz.func30, Tryz.ntmps30
  go_wp2_with fail
  refine (widths_eq vl L w H.out.2.1 H.out.2.2.2 (by omega)).mono ?_
  rintro e w1 ⟨⟨va, la, rfl, hA, hks, hla, hga⟩, b1⟩
  obtain ⟨ba, ca, rfl, _⟩ := ownN_form hA
  have hB1 := H.out.1.old b1
  have hE1 := H.out.2.1.old b1
  have hna50 : (la.length : Int) ≤ 60 := by omega
  have hwl : IntKind.u64.wrap (la.length : Int) = (la.length : Int) := by rw [IntKind.wrap_u64]; omega
  have hlow := low_eq v l0 (la.length : Int) 4 w1 hB1 (by omega) (by omega) (by omega)
  rw [Int.toNat_natCast] at hlow
  have HW := Lib.hid (And.intro hlow (And.intro hA (And.intro hga (And.intro b1 (And.intro hE1 (And.intro hB1 hks))))))
  clear hA hga b1 hB1 hE1 hlow hks
  go_wp2_with fail
  refine HW.out.1.mono ?_
  rintro e w2 ⟨v1, rfl, hB2, hT2⟩
  have hE2 : EnS w2 vl L := HW.out.2.2.2.2.1.kp hT2.1 H.out.2.2.1
  have hva0 : ∀ i ∈ (Value.slice ba la.length ca).ownBlock.toList, i ∉ v.ownBlock.toList := fun i hi h => by
    have := HW.out.2.2.1 i hi
    have := H.out.1.lt i h
    omega
  have hA2 : OwnN .i64 w2 (.slice ba la.length ca) la := RowV.kp HW.out.2.1 hT2.1 hva0
  have hT02 : AppT w w2 v v1 := (AppT.old (AppT.refl w v) HW.out.2.2.2.1).trans hT2
  have hva1 : ∀ i ∈ (Value.slice ba la.length ca).ownBlock.toList, i ∉ v1.ownBlock.toList := fun i hi h => by
    rcases hT2.2 i h with h1 | h1
    · exact hva0 i hi h1
    · have := RowV.lt HW.out.2.1 i hi
      omega
  have HK := Lib.hid HW.out.2.2.2.2.2.2
  have H2 := Lib.hid (And.intro hE2 (And.intro hA2 (And.intro hT02 (And.intro hva1 hB2))))
  clear hE2 hA2 hT02 hva1 hB2 hva0 hT2 HW hwl
  go_wp2_with fail
  refine (byDigest_eq vl L w2 H2.out.1 (by omega)).mono ?_
  rintro e w3 ⟨⟨gs, cs, S, rfl, hgs, hE3, hSp, hSs⟩, b3⟩
  obtain ⟨n, hnl⟩ : ∃ n, L.length = n := ⟨_, rfl⟩
  have hSl : S.length = n := hSp.length_eq.trans hnl
  rw [hnl] at hn ⊢
  have HS := Lib.hid (And.intro hSp (And.intro hSs (And.intro hSl hnl)))
  have hSG : Hid (∀ x ∈ S, EnG x) := Lib.hid fun x hx => H.out.2.2.2 x (hSp.mem_iff.1 hx)
  have hgv1 : gs ∉ v1.ownBlock.toList := fun h => by
    have := H2.out.2.2.2.2.lt gs h
    omega
  have H3 := Lib.hid (And.intro hE3 (And.intro (RowV.old H2.out.2.1 b3) (And.intro (H2.out.2.2.1.old b3) (And.intro H2.out.2.2.2.1 (And.intro (H2.out.2.2.2.2.old b3) hgv1)))))
  clear hE3 hgs b3 hgv1 H2 hSp hSs hSl hnl
  go_wp2_with fail
  go_loopw [0, 23] (fun v0 v23 wr => ∃ (i : Nat) (r : List UInt8), i ≤ la.length ∧ v23 = .int .i64 i ∧ OwnL wr v0 r ∧ r.length ≤ l0.length + 4 + i * 12500 ∧ AppT w3 wr v1 v0 ∧ Hid (r = l0 ++ Lib.leBytes 4 la.length ++ (la.take i).flatMap (widthY S))) (fun v0 v23 _ => la.length - (intOf v23).toNat)
  case atStart => exact ⟨0, _, Nat.zero_le _, rfl, H3.out.2.2.2.2.1, by rw [List.length_append, Lib.leBytes_length]; omega, AppT.refl _ _, Lib.hid (by simp)⟩
  case round =>
    obtain ⟨i, r, hi, rfl, hO, hr, hT, hQ⟩ := hrel
    by_cases hik : i < la.length
    · have hdd : decide ((i : Int) < (la.length : Int)) = true := by rw [decide_eq_true_eq]; omega
      have hAr : OwnN .i64 wr (.slice ba la.length ca) la := RowV.kp H3.out.2.1 hT.1 H3.out.2.2.2.1
      have hEr : Ens wr gs 0 S := H3.out.1.kp hT.1 H3.out.2.2.2.2.2
      obtain ⟨g, rfl, hnc, hgw, hcell⟩ := ownN_at hAr i hik
      obtain ⟨X, hX⟩ : ∃ X, la[i] = X := ⟨_, rfl⟩
      rw [hX] at hcell
      have hXb : 0 ≤ X ∧ X ≤ 200 := by
        obtain ⟨y, hy, e⟩ := (HK.out.2 X).1 (by rw [← hX]; exact List.getElem_mem hik)
        have h1 := (H.out.2.2.2 y hy).1
        have h2 : (y.c.digest.length : Int) = X := e
        omega
      have hiI : (i : Int) < (la.length : Int) := by omega
      have hrb : Hid (r.length ≤ l0.length + 4 + 60 * 12500) := Lib.hid (by have := Nat.mul_le_mul_right 12500 hi; omega)
      have HR := Lib.hid (And.intro hO (And.intro hT (And.intro hEr (And.intro hX (And.intro hQ.out hr)))))
      clear hAr hO hT hEr hX hQ hr
      go_wp2_with fail
      clear hcell
      go_loopw [9, 29] (fun v9 v29 wj => ∃ (j : Nat) (m : List UInt8), j ≤ n ∧ v29 = .int .i64 j ∧ OwnL wj v9 m ∧ AppT wr wj (.slice none 0 0) v9 ∧ Hid (m = rowsY (S.take j) X)) (fun _ v29 _ => n - (intOf v29).toNat)
      case atStart => exact ⟨0, [], Nat.zero_le _, rfl, ownL_nil _, AppT.refl _ _, Lib.hid (by simp [rowsY])⟩
      case round =>
        obtain ⟨j, m, hj, rfl, hOj, hTj, hM⟩ := hrel
        have hml : Hid (m.length ≤ 60 * 208) := Lib.hid (by
          rw [hM.out]
          have h1 := rowsY_len (S := S.take j) (n := X) (fun x hx => (hSG.out x (List.mem_of_mem_take hx)).1)
          have h2 : (S.take j).length ≤ 60 := by rw [List.length_take]; omega
          have := Nat.mul_le_mul_right 208 h2
          omega)
        by_cases hjn : j < n
        · have hdj : decide ((j : Int) < (n : Int)) = true := by rw [decide_eq_true_eq]; omega
          have hjS : j < S.length := by rw [HS.out.2.2.1]; exact hjn
          obtain ⟨x, hxS⟩ : ∃ x, S[j] = x := ⟨_, rfl⟩
          have hE := (Ens.old HR.out.2.2.1 hTj.below) j hjS
          rw [hxS, Nat.zero_add] at hE
          obtain ⟨x0, x1, x2, x3, x4⟩ := hE
          have hxG : EnG x := hSG.out x (by rw [← hxS]; exact List.getElem_mem hjS)
          have hgl := World.block_lt_of_cell? wr _ x0
          obtain ⟨W1, hW1⟩ : ∃ W1, wr.alloc (.cells (enC x).toArray 33) = W1 := ⟨_, rfl⟩
          obtain ⟨dd, hdd'⟩ : ∃ dd, wr.heap.size = dd := ⟨_, rfl⟩
          have N1 : Blk W1 dd 33 (enC x).toArray := by rw [← hW1, ← hdd']; exact Blk.new _ _ _
          have b1 : Below wr.heap.size wr W1 := by rw [← hW1]; exact Old.alloc (Below.refl _ _) _
          have e3 : W1.cell? ⟨dd, 3, none⟩ = some (.string ⟨x.c.digest.toArray⟩) := N1.cell 3
          have e4 : W1.cell? ⟨dd, 4, none⟩ = some (.int .u64 (x.off : Nat)) := N1.cell 4
          have hjI : (j : Int) < (n : Int) := by omega
          have hW1' : wr.alloc (.cells #[.int .u64 (x.c.version : Nat), .int .u64 (x.c.codec : Nat), .int .u64 (x.c.code : Nat), .string ⟨x.c.digest.toArray⟩, .int .u64 (x.off : Nat)] 33) = W1 := hW1
          have hstep := rowsY_take (n := X) hjS
          rw [hxS] at hstep
          by_cases hcx : (x.c.digest.length : Int) = X
          · have hb : ((x.c.digest.length : Int) == X) = true := by simp [hcx]
            have hdl := hxG.1
            have hO1 : OwnL W1.drew u9 m := (OwnL.old hOj b1).old (Below.refl W1.heap.size W1).drew
            have hT1 := (hTj.old b1).old (Below.refl W1.heap.size W1).drew
            obtain ⟨v', w', hap, hO2, hT2⟩ := ownL_str W1.drew u9 m hO1 x.c.digest (by have := hml.out; omega)
            have hddu : dd ∉ u9.ownBlock.toList := fun h => by have := hOj.lt dd h; omega
            have e4' : w'.cell? ⟨dd, 4, none⟩ = some (.int .u64 (x.off : Nat)) := (hT2.1.cell (p := ⟨dd, 4, none⟩) N1.lt hddu).trans e4
            have hl8 := low_eq v' (m ++ x.c.digest) (x.off : Nat) 8 w' hO2 (by omega) (by rw [List.length_append]; have := hml.out; omega) (by omega)
            rw [Int.toNat_natCast] at hl8
            have HAP := Lib.hid hap
            have HMJ : Hid (m ++ x.c.digest ++ Lib.leBytes 8 x.off = rowsY (S.take (j + 1)) X) := Lib.hid (by rw [hstep, if_pos hcx, hM.out, rowY, List.append_assoc])
            have HJ := Lib.hid (And.intro hl8 (And.intro hT1 hT2))
            have HC := Lib.hid hcx
            clear hTj hOj hW1 N1 b1 hap hO2 hT2 hl8 hT1 hO1 hddu hxG hxS hstep hM hml hcx hdl
            go_wp2_with fail
            clear hW1' x0 x1 x2 x3 x4
            go_region_law (first | (refine step_append_run rfl (.tmp 39) (.tmp 42) 47 9 rfl u9 (.string ⟨x.c.digest.toArray⟩) (by simp [Act.eval]) (by simp [Act.eval]) _ _ HAP.out ?_) | (refine step_calls rfl 32 #[v', .int .u64 (x.off : Nat), .int .i64 8] (by simp [go_sem, Act.eval, e70]) ?_; refine HJ.out.1.mono ?_; rintro e w4 ⟨v4, rfl, hO4, hT4⟩; refine ⟨v4, rfl, ?_⟩; replace hO4 := Lib.hid (And.intro hO4 hT4); clear hT4))
            all_goals go_wp2_with fail
            all_goals try go_roundw
            all_goals first | (simp [intOf]; omega) | exact ⟨j + 1, _, by omega, by go_num, hO4.out.1, (HJ.out.2.1.trans HJ.out.2.2).trans hO4.out.2, HMJ⟩
          · have hb : ((x.c.digest.length : Int) == X) = false := by simp [hcx]
            have HMJ : Hid (m = rowsY (S.take (j + 1)) X) := Lib.hid (by rw [hstep, if_neg hcx, hM.out, List.append_nil])
            have HJ := Lib.hid (And.intro (OwnL.old hOj b1) (hTj.old b1))
            clear hTj hOj hW1 N1 b1 hxG hxS hstep hM hml
            go_wp2_with fail
            all_goals try go_roundw
            all_goals first | (simp [intOf]; omega) | exact ⟨j + 1, m, by omega, by go_num, HJ.out.1, HJ.out.2, HMJ⟩
        · have hdj : decide ((j : Int) < (n : Int)) = false := by rw [decide_eq_false_iff_not]; omega
          have hjn' : j = n := by omega
          subst hjn'
          have hmR : Hid (m = rowsY S X) := Lib.hid (by rw [hM.out, ← HS.out.2.2.1, List.take_length])
          have hOo : OwnL wr u0 r := HR.out.1.old hTj.below
          have hToo := HR.out.2.1.old hTj.below
          have hw8 : IntKind.i64.wrap (X + 8) = X + 8 := by rw [IntKind.wrap_i64]; omega
          have hu8 : IntKind.u64.wrap (X + 8) = X + 8 := by rw [IntKind.wrap_u64]; omega
          have hum : IntKind.u64.wrap (m.length : Int) = (m.length : Int) := by have := hml.out; rw [IntKind.wrap_u64]; omega
          have hlw := low_eq u0 r (X + 8) 4 wr hOo (by omega) (by have := hrb.out; omega) (by omega)
          have hrb9 : ∀ i ∈ u9.ownBlock.toList, i ∉ u0.ownBlock.toList := fun k hk h => by
            have h1 := (hTj.2 k hk).resolve_left (by simp [Value.ownBlock])
            have h2 := HR.out.1.lt k h
            omega
          obtain ⟨b9, c9, h9⟩ := ownL_form hOj
          subst h9
          have HJ := Lib.hid (And.intro hlw (And.intro hOj (And.intro hOo (And.intro hToo hrb9))))
          clear hlw hOj hTj hOo hToo hrb9 hM
          go_wp2_with fail
          refine HJ.out.1.mono ?_
          rintro e w4 ⟨v4, rfl, hO4, hT4⟩
          have hR4 : OwnL w4 (.slice b9 m.length c9) m := HJ.out.2.1.kp hT4.1 HJ.out.2.2.2.2
          have hr4b : ∀ i ∈ (Value.slice b9 m.length c9).ownBlock.toList, i ∉ v4.ownBlock.toList := fun k hk h => by
            rcases hT4.2 k h with h1 | h1
            · exact HJ.out.2.2.2.2 k hk h1
            · have := HJ.out.2.1.lt k hk
              omega
          have hl8 := low_eq v4 (r ++ Lib.leBytes 4 (X + 8).toNat) (m.length : Int) 8 w4 hO4 (by omega) (by rw [List.length_append, Lib.leBytes_length]; have := hrb.out; omega) (by omega)
          rw [Int.toNat_natCast] at hl8
          have H4 := Lib.hid (And.intro hl8 (And.intro hR4 (And.intro (HJ.out.2.2.2.1.trans hT4) hr4b)))
          clear hl8 hR4 hO4 hT4 hr4b HJ
          go_wp2_with fail
          refine H4.out.1.mono ?_
          rintro e w5 ⟨v5, rfl, hO5, hT5⟩
          have hR5 : OwnL w5 (.slice b9 m.length c9) m := H4.out.2.1.kp hT5.1 H4.out.2.2.2
          obtain ⟨v6, w6, hap6, hO6, hT6⟩ := ownL_rows w5 v5 _ hO5 (.slice b9 m.length c9) m hR5 (by rw [List.length_append, List.length_append, Lib.leBytes_length, Lib.leBytes_length]; have := hrb.out; have := hml.out; omega)
          have HAP6 := Lib.hid hap6
          have H6 := Lib.hid (And.intro hO6 ((H4.out.2.2.1.trans hT5).trans hT6))
          have HQ6 : Hid (r ++ Lib.leBytes 4 (X + 8).toNat ++ Lib.leBytes 8 m.length ++ m = l0 ++ Lib.leBytes 4 la.length ++ (la.take (i + 1)).flatMap (widthY S) ∧ (r ++ Lib.leBytes 4 (X + 8).toNat ++ Lib.leBytes 8 m.length ++ m).length ≤ l0.length + 4 + (i + 1) * 12500) := Lib.hid (by
            constructor
            · rw [List.take_succ_eq_append_getElem hik, List.flatMap_append, HR.out.2.2.2.1, ← List.append_assoc, ← HR.out.2.2.2.2.1]
              simp [widthY, hmR.out]
            · simp only [List.length_append, Lib.leBytes_length]
              have h1 := HR.out.2.2.2.2.2
              have h2 := hml.out
              omega)
          clear hR5 hO5 hT5 hap6 hO6 hT6 H4 hmR
          go_wp2_with (at_builtin; go_must (refine wpList_append_run rfl _ _ 47 47 rfl _ _ rfl rfl _ _ HAP6.out ?_))
          exact ⟨⟨i + 1, _, by omega, by go_num, H6.out.1, HQ6.out.2, H6.out.2, Lib.hid HQ6.out.1⟩, by simp [intOf]; omega⟩
    · have hdd : decide ((i : Int) < (la.length : Int)) = false := by rw [decide_eq_false_iff_not]; omega
      have hT0 := H3.out.2.2.1.trans hT
      have hii : i = la.length := by omega
      have HO := Lib.hid (And.intro hO (And.intro hT0 (And.intro hQ.out hii)))
      clear hO hT hT0 hQ hii
      go_wp2_with fail
      have hq := HO.out.2.2.1
      rw [HO.out.2.2.2, List.take_length] at hq
      refine bodyPost_ret (v := u0) (by simp [results, Tryz.results30, go_sem]) rfl ⟨u0, S, la, rfl, ?_, ⟨HS.out.1, HS.out.2.1⟩, ⟨HK.out, hla⟩, HO.out.2.1⟩
      have e := HO.out.1
      rw [hq, List.append_assoc] at e
      exact e
end Go.Proofs.YtcljffldbnoljaaGreatDoor

namespace Go.Proofs.YtcljffldbnoljaaGreatDoor
open Go.RowKit

theorem put64_blk (g o n c : Nat) (A zs : List Value) (v : Int) (W : World) (t : TypeId) (h : Blk W g t (A ++ zs).toArray) (ho : A.length = o) (hz : 8 ≤ zs.length) (hn : 8 ≤ n) (h0 : 0 ≤ v) (h1 : v < 18446744073709551616) :
    Calls Tryz.prog 181 #[.agg #[], .slice (some ⟨g, o, none⟩) n c, .int .u64 v] W fun e w' => e = .returned (.tuple #[]) ∧
      Blk w' g t ((A ++ Lib.byteCells (Lib.leBytes 8 v.toNat)) ++ zs.drop 8).toArray ∧ Kp [g] W w' := by
  have hs : ∀ j, j < 8 → (W.cell? ⟨g, o + j, none⟩).isSome = true ∧ W.frozen? ⟨g, o + j, none⟩ = false := fun j hj => blk_some h (by rw [List.length_append]; omega)
  obtain ⟨x0, c0⟩ := Option.isSome_iff_exists.1 (hs 0 (by omega)).1
  obtain ⟨x1, c1⟩ := Option.isSome_iff_exists.1 (hs 1 (by omega)).1
  obtain ⟨x2, c2⟩ := Option.isSome_iff_exists.1 (hs 2 (by omega)).1
  obtain ⟨x3, c3⟩ := Option.isSome_iff_exists.1 (hs 3 (by omega)).1
  obtain ⟨x4, c4⟩ := Option.isSome_iff_exists.1 (hs 4 (by omega)).1
  obtain ⟨x5, c5⟩ := Option.isSome_iff_exists.1 (hs 5 (by omega)).1
  obtain ⟨x6, c6⟩ := Option.isSome_iff_exists.1 (hs 6 (by omega)).1
  obtain ⟨x7, c7⟩ := Option.isSome_iff_exists.1 (hs 7 (by omega)).1
  have hc := Tryz.binary_LE_PutUint64 g o n c v.toNat (by omega) x0 x1 x2 x3 x4 x5 x6 x7 W hn c0 c1 c2 c3 c4 c5 c6 c7 (hs 0 (by omega)).2 (hs 1 (by omega)).2 (hs 2 (by omega)).2 (hs 3 (by omega)).2 (hs 4 (by omega)).2 (hs 5 (by omega)).2 (hs 6 (by omega)).2 (hs 7 (by omega)).2
  rw [Int.toNat_of_nonneg h0] at hc
  refine hc.mono ?_
  rintro e w' ⟨rfl, rfl⟩
  refine ⟨rfl, ?_, Kp.of_setCells (.inl (by simp)) _ _ _ ((Kp.refl _ _).alloc _)⟩
  have hl : (Lib.byteCells (Lib.leBytes 8 v.toNat)).length = 8 := by rw [Lib.byteCells_length, Lib.leBytes_length]
  have := blk_mid (h.alloc (.cells #[] 253)) o ho (Lib.byteCells (Lib.leBytes 8 v.toNat)) (by rw [hl]; exact hz)
  rw [hl] at this
  exact this

theorem mk_bytes (k : Nat) (hk : k ≤ 1000000) (z : Int) (hz : z = k) (W : World) : (Instr.makeSlice 47 (.int .i64 z) (.int .i64 z)).run Tryz.prog W = .ok (.slice (some ⟨W.heap.size, 0, none⟩) k k) (W.alloc (.cells (List.replicate k (.int .u8 0)).toArray 5)) := by
  obtain ⟨i0, hi, hz0, hz1, hz2⟩ := info_parts info5
  subst hz
  have hr := run_make (P := Tryz.prog) W 47 5 i0 (.int .u8 0) Tryz.underlying47 hi hz0 .i64 .i64 k k (by omega) (by omega) (by rw [hz2]; omega) (by omega)
  have ht0 : madeCells #[Value.int .u8 0] k = (List.replicate k (Value.int .u8 0)).toArray := by
    rw [← toList_madeCells_one (.int .u8 0) k]
  rw [← ht0]
  simpa [hz1, Value.cells] using hr

theorem le4_cells (v : Nat) (hv : v < 4294967296) : Lib.byteCells (Lib.leBytes 4 v) = [.int .u8 ((v : Int) % 256), .int .u8 ((v : Int) / 256 % 256), .int .u8 ((v : Int) / 65536 % 256), .int .u8 ((v : Int) / 16777216)] := by
  have e : ∀ n : Nat, (((n % 256).toUInt8.toNat : Nat) : Int) = (n : Int) % 256 := fun n => by
    rw [Lib.toUInt8_mod]; omega
  simp only [Lib.leBytes, Lib.byteCells, List.map_cons, List.map_nil, e]
  have h3 : ((v / 256 / 256 / 256 : Nat) : Int) % 256 = (v : Int) / 16777216 := by omega
  have h2 : ((v / 256 / 256 : Nat) : Int) % 256 = (v : Int) / 65536 % 256 := by omega
  have h1 : ((v / 256 : Nat) : Int) % 256 = (v : Int) / 256 % 256 := by omega
  rw [h1, h2, h3]

set_option maxRecDepth 100000 in
set_option maxHeartbeats 2000000 in
theorem put32_world (g c v : Nat) (zs : List Value) (w : World) (t : TypeId) (h : Blk w g t zs.toArray) (hz : zs.length = 4) (_hc : 4 ≤ c) (hv : v < 4294967296) :
    Calls Tryz.prog 176 #[.agg #[], .slice (some ⟨g, 0, none⟩) 4 c, .int .u32 (v : Int)] w fun e w' => e = .returned (.tuple #[]) ∧ Blk w' g t (Lib.byteCells (Lib.leBytes 4 v)).toArray ∧ Kp [g] w w' := by
  match zs, hz with
  | [x0, x1, x2, x3], _ =>
    have B1 := h.alloc (.cells #[] 253)
    have HK : Hid (Kp [g] w (w.alloc (.cells #[] 253))) := Lib.hid ((Kp.refl _ _).alloc _)
    go_enter Tryz.func176, Tryz.ntmps176
    obtain ⟨W, hW⟩ : ∃ W, w.alloc (.cells #[] 253) = W := ⟨_, rfl⟩
    rw [hW] at B1 HK
    have q0 : W.cell? ⟨g, 0, none⟩ = some x0 := B1.cell 0
    have q1 : W.cell? ⟨g, 1, none⟩ = some x1 := B1.cell 1
    have q2 : W.cell? ⟨g, 2, none⟩ = some x2 := B1.cell 2
    have q3 : W.cell? ⟨g, 3, none⟩ = some x3 := B1.cell 3
    have f0 := B1.frozen 0
    have f1 := B1.frozen 1
    have f2 := B1.frozen 2
    have f3 := B1.frozen 3
    have HB := Lib.hid B1
    clear B1 h
    go_wp2_with fail
    go_end0
    rw [le4_cells v hv]
    have b := (((HB.out.set_ 0 (.int .u8 ((v : Int) % 256))).set_ 1 (.int .u8 ((v : Int) / 256 % 256))).set_ 2 (.int .u8 ((v : Int) / 65536 % 256))).set_ 3 (.int .u8 ((v : Int) / 16777216))
    exact ⟨rfl, b, (((HK.out.setCell (p := ⟨g, 0, none⟩) (.inl (by simp)) _).setCell (p := ⟨g, 1, none⟩) (.inl (by simp)) _).setCell (p := ⟨g, 2, none⟩) (.inl (by simp)) _).setCell (p := ⟨g, 3, none⟩) (.inl (by simp)) _⟩

set_option maxRecDepth 100000 in
set_option maxHeartbeats 2000000 in
theorem drWrite_any (x : DRec) (gc oc n cb : Nat) (A zs : List Value) (w : World) (t : TypeId) (hB : Blk w gc t (A ++ zs).toArray) (ho : A.length = oc) (hz : n ≤ zs.length) (hn : n = x.d.length + 8) (hnc : n ≤ cb) (hs : Bs w x.g x.o x.d) (hxc : x.d.length ≤ x.c) (hoff : x.off < 18446744073709551616) (hne : x.g ≠ gc) (_hcb : cb ≤ 1000000) :
    Calls Tryz.prog 175 #[.agg #[.slice (some ⟨x.g, x.o, none⟩) x.d.length x.c, .int .u64 (x.off : Nat)], .slice (some ⟨gc, oc, none⟩) n cb] w fun e w' => e = .returned (.tuple #[]) ∧ Blk w' gc t ((A ++ Lib.byteCells (rowY x.d x.off)) ++ zs.drop n).toArray ∧ Kp [gc] w w' := by
  obtain ⟨g, o, c, d, off⟩ := x
  simp only at hn hs hxc hoff hne ⊢
  obtain ⟨k, hk⟩ : ∃ k, d.length = k := ⟨_, rfl⟩
  obtain ⟨W, hW⟩ : ∃ W, w.alloc (.cells #[.slice (some ⟨g, o, none⟩) k c, .int .u64 (off : Nat)] 247) = W := ⟨_, rfl⟩
  have B1 : Blk W gc t (A ++ zs).toArray := by rw [← hW]; exact hB.alloc _
  have D1 : Blk W w.heap.size 247 #[.slice (some ⟨g, o, none⟩) k c, .int .u64 (off : Nat)] := by rw [← hW]; exact Blk.new _ _ _
  have K1 : Kp [gc] w W := by rw [← hW]; exact (Kp.refl _ _).alloc _
  have s1 : Bs W g o d := hs.old (by rw [← hW]; exact Old.alloc (Below.refl _ _) _)
  have hgw : ¬ w.heap.size = gc := fun e => by have := hB.lt; omega
  have d0 : W.cell? ⟨w.heap.size, 0, none⟩ = some (.slice (some ⟨g, o, none⟩) k c) := D1.cell 0
  have d1 : W.cell? ⟨w.heap.size, 1, none⟩ = some (.int .u64 (off : Nat)) := D1.cell 1
  obtain ⟨i0, hi0, hz0, hz1, hz2⟩ := info_parts info5
  have hlk : (Lib.byteCells d).length = k := by rw [Lib.byteCells_length, hk]
  rw [hk] at hn
  subst hn
  have hcp := run_copy_cells (P := Tryz.prog) W.drew 47 47 3 5 gc oc (k + 8) cb ⟨g, o, none⟩ k c (Lib.byteCells d) Tryz.underlying47 (by rw [hi0]; exact congrArg some hz1)
    (by rw [hlk]; exact (Nat.min_eq_left (by omega)).symm) (bs_src (show Bs W.drew g o d from s1)) (by
      intro j hj
      rw [hlk] at hj
      exact (blk_some B1.drew (by rw [List.length_append, ho]; omega)).1) (by
      intro j hj
      exact B1.drew.frozen _) (bytes_one _)
  rw [hlk] at hcp
  rw [hk]
  have HK := Lib.hid (And.intro hk (And.intro hlk (And.intro B1 (And.intro K1 (And.intro D1 (And.intro ho hz))))))
  have hknc : (k : Int) + 8 ≤ (cb : Int) := by omega
  have hkncI : (k : Int) ≤ (cb : Int) := by omega
  clear hk hlk B1 K1 D1 s1 hs hB hi0 hz0 hz1 hz2 ho
  go_enter Tryz.func175, Tryz.ntmps175
  go_wp2_with fail
  go_region
  all_goals go_wp2_with fail
  all_goals
    have B2 := blk_mid (HK.out.2.2.1.drew) oc HK.out.2.2.2.2.2.1 (Lib.byteCells d) (by rw [HK.out.2.1]; have := HK.out.2.2.2.2.2.2; omega)
    have K2 : Kp [gc] w (W.drew.setCells gc oc (Lib.byteCells d)) := Kp.of_setCells (.inl (by simp)) _ _ _ HK.out.2.2.2.1.drew
    have D2 := (HK.out.2.2.2.2.1.drew).kp (Kp.of_setCells (l := [gc]) (g := gc) (.inl (by simp)) (Lib.byteCells d) oc _ (Kp.refl [gc] W.drew)) (by simp [hgw])
    rw [HK.out.2.1] at B2
    clear hW hcp d0 d1
    generalize W.drew.setCells gc oc (Lib.byteCells d) = W2 at *
    have d1 : W2.cell? ⟨w.heap.size, 1, none⟩ = some (.int .u64 (off : Nat)) := D2.cell 1
    have HP := Lib.hid (put64_blk gc (oc + k) 8 (cb - k) (A ++ Lib.byteCells d) (zs.drop k) (off : Int) W2.drew t B2.drew (by rw [List.length_append, HK.out.2.1, HK.out.2.2.2.2.2.1]) (by rw [List.length_drop]; have := HK.out.2.2.2.2.2.2; omega) (Nat.le_refl _) (by omega) (by omega))
    have e8 : k + 8 - k = 8 := by omega
    have hck : ¬ cb = k := by omega
    have hck2 : ¬ k = cb := by omega
    clear B2 D2
    go_wp2_with fail
  all_goals go_region_with (go_at_call 181; refine HP.out.mono ?_; rintro _ W3 ⟨rfl, B3, K3⟩; replace B3 := Lib.hid (And.intro B3 K3); clear K3)
  all_goals go_wp2_with fail
  all_goals go_end0
  all_goals
    have b := B3.out.1
    rw [List.drop_drop, Int.toNat_natCast] at b
    exact ⟨rfl, by rw [rowY, Lib.byteCells_append, ← List.append_assoc]; exact b, (K2.drew).trans B3.out.2⟩

end Go.Proofs.YtcljffldbnoljaaGreatDoor
