/-
  The walk of laws.FnIiFlatBytes. Conditions: as the contract says.
-/
import Derived.Test.YtcljffldbnoljaaGreatDoorJJr
import Derived.BigRegion
import Derived.Deep.RegionLaw
namespace Go.Proofs.YtcljffldbnoljaaGreatDoor
open Go.RowKit Go.Sort Go.Lib

theorem ens_drop {w : World} {b off t : Nat} {L : List EntL} (h : Ens w b off L) : Ens w b (off + t * 5) (L.drop t) := fun i hi => by
  rw [List.length_drop] at hi
  have h1 := h (t + i) (by omega)
  rw [List.getElem_drop, show off + t * 5 + i * 5 = off + (t + i) * 5 by omega]
  exact h1
theorem ens_take {w : World} {b off t : Nat} {L : List EntL} (h : Ens w b off L) : Ens w b off (L.take t) := fun i hi => by
  rw [List.length_take] at hi
  rw [List.getElem_take]
  exact h i (by omega)
/-- append(v, entries...). -/
theorem ownV_slice (w : World) (v : Value) (d : List EntL) (hd : RowV w 5 v d.length (d.flatMap enC)) (b off n c : Nat) (M : List EntL) (hl : M.length = n) (hM : Ens w b off M) (hn : d.length + n ≤ 1000) :
    ∃ v' w', (Builtin.append_ #[22, 22] 22 #[v, .slice (some ⟨b, off, none⟩) n c]).run Tryz.prog w = .ok v' w' ∧ RowV w' 5 v' (d ++ M).length ((d ++ M).flatMap enC) ∧ AppT w w' v v' := by
  subst hl
  have hfl : (flatK enC 5 M.toArray).toList = M.flatMap enC := by
    have := flatK_list enC 5 enC_len (by omega) M #[]
    simpa [flatK] using this
  have hlen : (M.flatMap enC).length = M.length * 5 := by
    rw [← hfl, Array.length_toList, size_flatK]; simp
  have hsrc : Src Tryz.prog 5 22 (.slice (some ⟨b, off, none⟩) M.length c) M.length (M.flatMap enC) w :=
    Src.ofSlice w Tryz.underlying22 ⟨b, off, none⟩ M.length c _ hlen (fun j x hx => by
      rw [add_at]
      exact ens_flat hM j x (by rw [hfl]; exact hx)) (fun x hx => by
      obtain ⟨y, hy, hxy⟩ := List.mem_flatMap.1 hx
      exact enC_one y x hxy)
  obtain ⟨v', w', hrun, hR, hT⟩ := rowV_append w 22 22 33 entE _ 5 48 Tryz.underlying22 entI entZ (by kernel_rfl) (by kernel_rfl) (by kernel_rfl) (by decide) v d.length _ hd _ M.length _ hsrc (by omega) (by decide)
  exact ⟨v', w', hrun, by rw [List.length_append, List.flatMap_append]; exact hR, hT⟩
/-- A row of entries the code has made, as an argument. -/
theorem rowV_ens {w : World} {v : Value} {M : List EntL} {n : Nat} (h : RowV w 5 v M.length (M.flatMap enC)) (hn : M.length = n) (hne : M ≠ []) : ∃ g c, v = .slice (some ⟨g, 0, none⟩) n c ∧ Ens w g 0 M := by
  subst hn
  have hfl : (flatK enC 5 M.toArray).toList = M.flatMap enC := by
    have := flatK_list enC 5 enC_len (by omega) M #[]
    simpa [flatK] using this
  obtain ⟨_, ⟨_, h2⟩ | ⟨g, cap, rfl, _, hmc, _, hc, hok⟩⟩ := h
  · exact absurd (List.eq_nil_of_length_eq_zero h2) hne
  · refine ⟨g, cap, rfl, ?_⟩
    have := holdsK_ens (w := w) (g := g) (d := M.toArray) (fun t ht => ?_)
    · simpa using this
    · rw [Nat.zero_add]
      have e : (M.flatMap enC)[t]? = some (flatK enC 5 M.toArray)[t]! := by
        rw [← hfl, getElem!_pos _ t ht]; simp
      exact ⟨hc t _ e, (hok t (Nat.lt_of_lt_of_le (by rw [size_flatK] at ht; simpa using ht) (Nat.mul_le_mul_right 5 hmc))).2⟩

set_option maxRecDepth 100000 in
set_option maxHeartbeats 16000000 in
theorem fnIiFlatBytes_walk (a : Option Addr) (n c : Nat) (L : List EntL) (B1 : Bool) (zn : Nat) (w : World) (hL : L.length = n) (hn : n ≤ 9223372036854775807) (hnc : n ≤ c) (hcm : c ≤ maxLen) (hf : ∀ x ∈ L, x.fit) (h : n = 0 ∨ ∃ b off, a = some ⟨b, off, none⟩ ∧ Ens w b off L) (hz : zn < 256) (E : E4 w) :
    Calls Tryz.prog 3 #[.slice a n c, .bool B1, .int .u8 (zn : Nat)] w fun e w' => e = .returned (.bool true) ∧ Below w.heap.size w w' := by
  have hEns := fun W (hb : Below w.heap.size w W) => (h.imp id (fun ⟨b, off, ha, hc⟩ => ⟨b, off, ha, hc.old hb⟩) : n = 0 ∨ ∃ b off, a = some ⟨b, off, none⟩ ∧ Ens W b off L)
  have HZ := Lib.hid (zzFits7_any a n c L w hL hn hf h)
  have HF := Lib.hid (And.intro hL (And.intro hn (And.intro hf (And.intro hEns (And.intro hnc (And.intro hcm E))))))
  clear hL hn hf h E hEns hnc hcm
  go_enter Tryz.func3, Tryz.ntmps3
  go_wp2_with fail
  refine HZ.out.mono ?_
  rintro e w1 ⟨⟨Z, rfl, _⟩, b1⟩
  clear HZ
  cases Z
  · go_wp2_with fail
    go_ret
    exact ⟨rfl, b1⟩
  have HS := Lib.hid (stEntries_any a n c L w1 HF.out.1 HF.out.2.1 HF.out.2.2.1 (HF.out.2.2.2.1 w1 b1))
  have H1 := Lib.hid b1
  clear b1
  go_wp2_with fail
  refine HS.out.mono ?_
  rintro e w2 ⟨⟨S, rfl, hS⟩, b2⟩
  have HSS := Lib.hid hS
  have H2 := Lib.hid (Old.trans H1.out b2)
  clear hS b2 HS H1
  cases S
  · go_wp2_with fail
    go_ret
    exact ⟨rfl, H2.out⟩
  obtain ⟨hn60, hst⟩ := HSS.out (by first | rfl | trivial)
  have HO := Lib.hid (once_any a n c L w2 HF.out.1 hn60 HF.out.2.2.2.2.1 (HF.out.2.2.2.1 w2 H2.out))
  have HT := Lib.hid (And.intro hn60 hst)
  clear hn60 hst HSS
  go_wp2_with fail
  refine HO.out.mono ?_
  rintro e w3 ⟨⟨O, rfl, hO⟩, b3⟩
  have HOO := Lib.hid hO
  have H3 := Lib.hid (Old.trans H2.out b3)
  clear hO b3 HO H2
  cases O
  · go_wp2_with fail
    go_ret
    exact ⟨rfl, H3.out⟩
  have HA := Lib.hid (HOO.out (by first | rfl | trivial))
  clear HOO
  by_cases hn0 : n = 0
  · subst hn0
    go_wp2_with fail
    go_ret
    exact ⟨rfl, H3.out⟩
  obtain ⟨b, off, rfl, hE3⟩ := (HF.out.2.2.2.1 w3 H3.out).resolve_left hn0
  have hn0d : ((n : Int) == 0) = false := by simp; omega
  have hn0I : ¬ (n : Int) = 0 := by omega
  have hne : L ≠ [] := fun e => hn0 (by rw [← HF.out.1, e]; rfl)
  have hok : ∀ x ∈ L, x.ok := fun x hx => by
    obtain ⟨j, hj, rfl⟩ := List.mem_iff_getElem.1 hx
    exact ⟨HT.out.2 j hj, (HF.out.2.2.1 _ hx).2⟩
  have hG : ∀ x ∈ L, EnG x := fun x hx => by
    have h1 := hok x hx
    refine ⟨h1.1.2.2, ?_, h1.2⟩
    have h2 := h1.1.1
    unfold CidL.tidy at h2
    omega
  obtain ⟨t, ht⟩ : ∃ t, zn % n = t := ⟨_, rfl⟩
  have htn : t < n := by rw [← ht]; exact Nat.mod_lt _ (by omega)
  have hrem : Int.tmod (zn : Int) (n : Int) = (t : Int) := by rw [← ht]; rfl
  have hn60 := HT.out.1
  have HD := Lib.hid (And.intro hE3 (And.intro hne (And.intro hok hG)))
  clear hE3 hne hok hG ht hn0d HT
  cases B1
  · have HI := Lib.hid (iiFlat1 (some ⟨b, off, none⟩) n c L w3 HF.out.1 hn60 HD.out.2.1 HD.out.2.2.1 (.inr ⟨b, off, rfl, HD.out.1⟩) (HF.out.2.2.2.2.2.2.old H3.out))
    go_wp2_with fail
    refine HI.out.mono ?_
    rintro e w4 ⟨S1, L1, rfl, hP1, hW1, hl1, b4⟩
    have H4 := Lib.hid (And.intro hP1 (And.intro hW1 (And.intro hl1 (Old.trans H3.out b4))))
    have hE4 := HD.out.1.old b4
    clear hP1 hW1 hl1 b4 HI
    obtain ⟨W0, hW0⟩ : ∃ W0, w4.drew.alloc (.cells #[] 33) = W0 := ⟨_, rfl⟩
    have b40 : Below w4.heap.size w4 W0 := by rw [← hW0]; exact Old.alloc (RowKit.Below.drew (Below.refl _ _)) _
    have hR0 : RowV W0 5 (.slice (some ⟨w4.heap.size, 0, none⟩) 0 0) ([] : List EntL).length (([] : List EntL).flatMap enC) := by
      rw [← hW0]
      exact rowV_mk0 w4.drew _ 5
    have hE0 := hE4.old b40
    obtain ⟨v1, w5, hap1, hR1, hT1⟩ := ownV_slice W0 _ [] hR0 b (off + t * 5) (n - t) (c - t) (L.drop t) (by rw [List.length_drop, HF.out.1]) (ens_drop hE0) (by simp; omega)
    have b45 : Below w4.heap.size w4 w5 := ((Kp.of_below b40 []).step hT1.1 (fun i hi => by simp [Value.ownBlock] at hi; exact .inr (by omega))).below
    have hE5 := hE4.old b45
    rw [List.nil_append] at hR1
    obtain ⟨v2, w6, hap2, hR2, hT2⟩ := ownV_slice w5 v1 (L.drop t) hR1 b off t c (L.take t) (by rw [List.length_take, HF.out.1]; omega) (ens_take hE5) (by rw [List.length_drop, HF.out.1]; omega)
    have hv1 : ∀ i ∈ v1.ownBlock.toList, w4.heap.size ≤ i := fun i hi => by
      rcases hT1.2 i hi with h1 | h1
      · simp [Value.ownBlock] at h1; omega
      · exact Nat.le_trans b40.size h1
    have b46 : Below w4.heap.size w4 w6 := ((Kp.of_below b45 []).step hT2.1 (fun i hi => .inr (hv1 i hi))).below
    have hrl : (L.drop t ++ L.take t).length = n := by rw [List.length_append, List.length_drop, List.length_take, HF.out.1]; omega
    have hrp : (L.drop t ++ L.take t).Perm L := by
      have := List.perm_append_comm (l₁ := L.drop t) (l₂ := L.take t)
      rwa [List.take_append_drop] at this
    have hrne : L.drop t ++ L.take t ≠ [] := fun e => hn0 (by rw [← hrl, e]; rfl)
    obtain ⟨g2, c2, rfl, hE6⟩ := rowV_ens hR2 hrl hrne
    have b36 := Old.trans H4.out.2.2.2 b46
    have HX := Lib.hid (ixBytes1 (some ⟨g2, 0, none⟩) n c2 (L.drop t ++ L.take t) w6 hrl hn60 hrne (fun x hx => HD.out.2.2.1 x (hrp.mem_iff.1 hx)) (.inr ⟨g2, 0, rfl, hE6⟩) (HF.out.2.2.2.2.2.2.old b36))
    have H6 := Lib.hid (And.intro hrp (And.intro b36 (hE4.old b46)))
    have HA1 := Lib.hid hap1
    have HA2 := Lib.hid hap2
    have htnI : (t : Int) ≤ (n : Int) := by omega
    have hncI : (n : Int) ≤ (c : Int) := by have := HF.out.2.2.2.2.1; omega
    have htcI : (t : Int) ≤ (c : Int) := by omega
    have hct : ¬ c = t := by have := HF.out.2.2.2.2.1; omega
    have hct2 : ¬ t = c := by omega
    have hc0 : ¬ c = 0 := by omega
    have hix : ∀ args w, (callFunc 8 args).run Tryz.prog w = .ok (.enter 8 args) w := enters_of Tryz.func8 (by kernel_rfl) rfl
    clear hE4 b40 hR0 hE0 hap1 hR1 hT1 b45 hE5 hap2 hR2 hT2 hv1 b46 hrl hrp hrne hE6 b36
    go_wp2_with fail
    go_region_law (first | (refine step_append_run rfl (.tmp 42) (.tmp 45) 22 22 rfl (.slice (some ⟨w4.heap.size, 0, none⟩) 0 0) (.slice (some ⟨b, off + t * 5, none⟩) (n - t) (c - t)) (by simp [Act.eval]) (by simp [Act.eval]) _ _ HA1.out ?_) | (refine step_append_run rfl (.tmp 46) (.tmp 49) 22 22 rfl v1 (.slice (some ⟨b, off, none⟩) t c) (by simp [Act.eval]) (by simp [Act.eval]) _ _ HA2.out ?_) | (refine step_calls rfl 8 #[.slice (some ⟨g2, 0, none⟩) n c2, .int .u64 1025] (by simp [go_sem, Act.eval, hix]) ?_; refine HX.out.mono ?_; rintro e w7 ⟨S2, rfl, hW2, hl2, b7⟩; refine ⟨_, rfl, ?_⟩; replace hW2 := Lib.hid (And.intro hW2 b7); clear b7 hl2))
    all_goals
      obtain ⟨hP1, hW1, hl1, b04⟩ := H4.out
      obtain ⟨hrp, b06, hE6⟩ := H6.out
      obtain ⟨hW2, b7⟩ := hW2.out
      have e12 : S1 = S2 := (written_uniq (hrp.trans hP1.symm) (HA.out.perm hP1) hW2 hW1).symm
      subst e12
      have HIx := Lib.hid (show Calls Tryz.prog 9 #[.slice (some ⟨b, off, none⟩) n c, .int .u64 1025] w7 (XtPost w7 50000000 (IndexIs 1025 L)) from indexBytes_eq (.slice (some ⟨b, off, none⟩) n c) L 1025 w7 ⟨HD.out.2.1, b, off, c, by rw [HF.out.1], hE6.old b7⟩ HD.out.2.2.2 (by rw [HF.out.1]; exact hn60) (by omega))
      have H7 := Lib.hid (And.intro hP1 (And.intro hW1 (Old.trans b06 b7)))
      clear hP1 hW1 hl1 b04 hrp b06 hE6 hW2 b7 H4 H6 HX HA1 HA2
      go_wp2_with fail
      refine HIx.out.mono ?_
      rintro e w8 ⟨S3, rfl, _, hI, b8⟩
      have e13 : S1 = S3 := written_eq H7.out.1 HA.out H7.out.2.1 hI
      subst e13
      have H8 := Lib.hid (Old.trans H7.out.2.2 b8)
      clear hI b8 HIx
      go_wp2_with fail
      exact bodyPost_ret (v := .bool true) (by simp [results, Tryz.results3, go_sem]) rfl ⟨rfl, H8.out⟩
  · have HI := Lib.hid (iiFlat0 (some ⟨b, off, none⟩) n c L w3 HF.out.1 hn60 HD.out.2.1 HD.out.2.2.1 (.inr ⟨b, off, rfl, HD.out.1⟩) (HF.out.2.2.2.2.2.2.old H3.out))
    go_wp2_with fail
    refine HI.out.mono ?_
    rintro e w4 ⟨S1, L1, rfl, hP1, hW1, hl1, b4⟩
    have H4 := Lib.hid (And.intro hP1 (And.intro hW1 (And.intro hl1 (Old.trans H3.out b4))))
    have hE4 := HD.out.1.old b4
    clear hP1 hW1 hl1 b4 HI
    obtain ⟨W0, hW0⟩ : ∃ W0, w4.drew.alloc (.cells #[] 33) = W0 := ⟨_, rfl⟩
    have b40 : Below w4.heap.size w4 W0 := by rw [← hW0]; exact Old.alloc (RowKit.Below.drew (Below.refl _ _)) _
    have hR0 : RowV W0 5 (.slice (some ⟨w4.heap.size, 0, none⟩) 0 0) ([] : List EntL).length (([] : List EntL).flatMap enC) := by
      rw [← hW0]
      exact rowV_mk0 w4.drew _ 5
    have hE0 := hE4.old b40
    obtain ⟨v1, w5, hap1, hR1, hT1⟩ := ownV_slice W0 _ [] hR0 b (off + t * 5) (n - t) (c - t) (L.drop t) (by rw [List.length_drop, HF.out.1]) (ens_drop hE0) (by simp; omega)
    have b45 : Below w4.heap.size w4 w5 := ((Kp.of_below b40 []).step hT1.1 (fun i hi => by simp [Value.ownBlock] at hi; exact .inr (by omega))).below
    have hE5 := hE4.old b45
    rw [List.nil_append] at hR1
    obtain ⟨v2, w6, hap2, hR2, hT2⟩ := ownV_slice w5 v1 (L.drop t) hR1 b off t c (L.take t) (by rw [List.length_take, HF.out.1]; omega) (ens_take hE5) (by rw [List.length_drop, HF.out.1]; omega)
    have hv1 : ∀ i ∈ v1.ownBlock.toList, w4.heap.size ≤ i := fun i hi => by
      rcases hT1.2 i hi with h1 | h1
      · simp [Value.ownBlock] at h1; omega
      · exact Nat.le_trans b40.size h1
    have b46 : Below w4.heap.size w4 w6 := ((Kp.of_below b45 []).step hT2.1 (fun i hi => .inr (hv1 i hi))).below
    have hrl : (L.drop t ++ L.take t).length = n := by rw [List.length_append, List.length_drop, List.length_take, HF.out.1]; omega
    have hrp : (L.drop t ++ L.take t).Perm L := by
      have := List.perm_append_comm (l₁ := L.drop t) (l₂ := L.take t)
      rwa [List.take_append_drop] at this
    have hrne : L.drop t ++ L.take t ≠ [] := fun e => hn0 (by rw [← hrl, e]; rfl)
    obtain ⟨g2, c2, rfl, hE6⟩ := rowV_ens hR2 hrl hrne
    have b36 := Old.trans H4.out.2.2.2 b46
    have HX := Lib.hid (ixBytes0 (some ⟨g2, 0, none⟩) n c2 (L.drop t ++ L.take t) w6 hrl hn60 hrne (fun x hx => HD.out.2.2.1 x (hrp.mem_iff.1 hx)) (.inr ⟨g2, 0, rfl, hE6⟩) (HF.out.2.2.2.2.2.2.old b36))
    have H6 := Lib.hid (And.intro hrp (And.intro b36 (hE4.old b46)))
    have HA1 := Lib.hid hap1
    have HA2 := Lib.hid hap2
    have htnI : (t : Int) ≤ (n : Int) := by omega
    have hncI : (n : Int) ≤ (c : Int) := by have := HF.out.2.2.2.2.1; omega
    have htcI : (t : Int) ≤ (c : Int) := by omega
    have hct : ¬ c = t := by have := HF.out.2.2.2.2.1; omega
    have hct2 : ¬ t = c := by omega
    have hc0 : ¬ c = 0 := by omega
    have hix : ∀ args w, (callFunc 8 args).run Tryz.prog w = .ok (.enter 8 args) w := enters_of Tryz.func8 (by kernel_rfl) rfl
    clear hE4 b40 hR0 hE0 hap1 hR1 hT1 b45 hE5 hap2 hR2 hT2 hv1 b46 hrl hrp hrne hE6 b36
    go_wp2_with fail
    go_region_law (first | (refine step_append_run rfl (.tmp 42) (.tmp 45) 22 22 rfl (.slice (some ⟨w4.heap.size, 0, none⟩) 0 0) (.slice (some ⟨b, off + t * 5, none⟩) (n - t) (c - t)) (by simp [Act.eval]) (by simp [Act.eval]) _ _ HA1.out ?_) | (refine step_append_run rfl (.tmp 46) (.tmp 49) 22 22 rfl v1 (.slice (some ⟨b, off, none⟩) t c) (by simp [Act.eval]) (by simp [Act.eval]) _ _ HA2.out ?_) | (refine step_calls rfl 8 #[.slice (some ⟨g2, 0, none⟩) n c2, .int .u64 1024] (by simp [go_sem, Act.eval, hix]) ?_; refine HX.out.mono ?_; rintro e w7 ⟨S2, rfl, hW2, hl2, b7⟩; refine ⟨_, rfl, ?_⟩; replace hW2 := Lib.hid (And.intro hW2 b7); clear b7 hl2))
    all_goals
      obtain ⟨hP1, hW1, hl1, b04⟩ := H4.out
      obtain ⟨hrp, b06, hE6⟩ := H6.out
      obtain ⟨hW2, b7⟩ := hW2.out
      have e12 : S1 = S2 := (written_uniq (hrp.trans hP1.symm) (HA.out.perm hP1) hW2 hW1).symm
      subst e12
      have HIx := Lib.hid (show Calls Tryz.prog 9 #[.slice (some ⟨b, off, none⟩) n c, .int .u64 1024] w7 (XtPost w7 50000000 (IndexIs 1024 L)) from indexBytes_eq (.slice (some ⟨b, off, none⟩) n c) L 1024 w7 ⟨HD.out.2.1, b, off, c, by rw [HF.out.1], hE6.old b7⟩ HD.out.2.2.2 (by rw [HF.out.1]; exact hn60) (by omega))
      have H7 := Lib.hid (And.intro hP1 (And.intro hW1 (Old.trans b06 b7)))
      clear hP1 hW1 hl1 b04 hrp b06 hE6 hW2 b7 H4 H6 HX HA1 HA2
      go_wp2_with fail
      refine HIx.out.mono ?_
      rintro e w8 ⟨S3, rfl, _, hI, b8⟩
      have e13 : S1 = S3 := written_eq H7.out.1 HA.out H7.out.2.1 hI
      subst e13
      have H8 := Lib.hid (Old.trans H7.out.2.2 b8)
      clear hI b8 HIx
      go_wp2_with fail
      exact bodyPost_ret (v := .bool true) (by simp [results, Tryz.results3, go_sem]) rfl ⟨rfl, H8.out⟩

theorem fnIiFlatBytes_law (a : Option Addr) (n c : Nat) (L : List EntL) (B1 : Bool) (z : Int) (w : World) (hL : L.length = n) (hn : n ≤ 9223372036854775807) (hf : ∀ x ∈ L, x.fit) (hk : n ≤ c ∧ c ≤ maxLen) (h : n = 0 ∨ ∃ b off, a = some ⟨b, off, none⟩ ∧ Ens w b off L) (h0 : 0 ≤ z) (h1 : z < 256) (E : E4 w) :
    Calls Tryz.prog 3 #[.slice a n c, .bool B1, .int .u8 z] w fun e w' => e = .returned (.bool true) ∧ Below w.heap.size w w' := by
  obtain ⟨zn, rfl⟩ := Int.eq_ofNat_of_zero_le h0
  exact fnIiFlatBytes_walk a n c L B1 zn w hL hn hk.1 hk.2 hf h (by omega) E
end Go.Proofs.YtcljffldbnoljaaGreatDoor
