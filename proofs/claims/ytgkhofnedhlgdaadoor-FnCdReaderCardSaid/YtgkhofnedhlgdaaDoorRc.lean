/-
  The walks of spec.ReadCid, spec.StreamCid. Conditions: as each contract says.
-/
import Derived.Test.YtgkhofnedhlgdaaDoorCdP
namespace Go.Proofs.YtgkhofnedhlgdaaDoor
open Go.RowKit

/-- What ReadCid comes to. -/
def rcOf (r : Option (CidL × Nat)) : Value :=
  match r with
  | some (x, k) => .tuple #[.agg #[.int .u64 x.version, .int .u64 x.codec, .int .u64 x.code, .string ⟨x.digest.toArray⟩], .int .i64 k, .bool true]
  | none => .tuple #[.agg #[.int .u64 0, .int .u64 0, .int .u64 0, .string ⟨#[]⟩], .int .i64 0, .bool false]

set_option maxRecDepth 100000 in
set_option maxHeartbeats 2000000 in
theorem readCid_any (l : List UInt8) (w : World) (hl : l.length ≤ 1000000) :
    Calls Tryd.prog 38 #[.string ⟨l.toArray⟩] w fun e w' => e = .returned (rcOf (cdRd l)) ∧ Below w.heap.size w w' := by
  have b0 := Old.alloc (Below.refl w.heap.size w) (.cells #[.int .u64 0, .int .u64 0, .int .u64 0, .string ⟨#[]⟩] 30)
  have B0 := Blk.new w 30 #[.int .u64 0, .int .u64 0, .int .u64 0, .string ⟨#[]⟩]
  by_cases hv : isV0 l = true
  · have hv' := hv
    simp [isV0] at hv'
    obtain ⟨⟨hl2, y0⟩, y1⟩ := hv'
    have i0 : ∀ h, ((⟨l.toArray⟩ : ByteArray)[0]'h).toNat = 18 := fun h => congrArg UInt8.toNat (List.getElem?_eq_some_iff.1 y0).2
    have i1 : ∀ h, ((⟨l.toArray⟩ : ByteArray)[1]'h).toNat = 32 := fun h => congrArg UInt8.toNat (List.getElem?_eq_some_iff.1 y1).2
    have HV := Lib.hid hv
    by_cases h34 : l.length < 34
    · have hr : cdRd l = none := by rw [cdRd, if_pos hv, if_pos h34]
      have HR := Lib.hid hr
      clear hr hv y0 y1
      go_enter Tryd.func38, Tryd.ntmps38
      go_wp2_with fail
      refine bodyPost_ret (ret_cell_tmp_tmp rfl rfl B0 Tryd.underlying30 (by kernel_rfl)) rfl ?_
      rw [HR.out]
      exact ⟨rfl, b0⟩
    · have hr : cdRd l = some (⟨0, 112, 18, (l.drop 2).take 32⟩, 34) := by rw [cdRd, if_pos hv, if_neg h34]
      have HR := Lib.hid hr
      clear hr hv y0 y1
      have hmid : (⟨l.toArray⟩ : ByteArray).extract 2 34 = ⟨((l.drop 2).take 32).toArray⟩ := by rw [ByteArray.extract_mk]
      go_enter Tryd.func38, Tryd.ntmps38
      go_wp2_with fail
      refine bodyPost_ret (ret_cell_tmp_tmp rfl rfl (Blk.new w 30 #[.int .u64 0, .int .u64 112, .int .u64 18, .string ⟨((l.drop 2).take 32).toArray⟩]) Tryd.underlying30 (by kernel_rfl)) rfl ?_
      rw [HR.out]
      exact ⟨rfl, Old.alloc (Below.refl _ _) _⟩
  · have hvf : isV0 l = false := by simpa using hv
    have hcd : cdRd l = (match uvRd l 0 0 with
      | .ok v n => if v = 1 then (match uvRd (l.drop n) 0 0 with
          | .ok codec m => match mhRd (l.drop (n + m)) with
            | some (code, d, k) => some (⟨1, codec, code, d⟩, n + m + k)
            | none => none
          | _ => none) else none
      | _ => none) := by rw [cdRd, hvf, if_neg (by simp)]; rfl
    have HV := Lib.hid hvf
    clear hv
    have hsplit : (¬ 2 < l.length) ∨ (2 < l.length ∧ ∃ a, l[0]? = some a ∧ (a.toNat : Int) ≠ 18) ∨ (2 < l.length ∧ l[0]? = some 18 ∧ ∃ a, l[1]? = some a ∧ (a.toNat : Int) ≠ 32) := by
      by_cases h2 : 2 < l.length
      · right
        match l, h2 with
        | a :: b :: c :: l', _ =>
          by_cases ha : a = 18
          · subst ha
            right
            refine ⟨by simp, rfl, b, rfl, ?_⟩
            intro hb
            have hb' : b = 32 := UInt8.toNat.inj (by have : (b.toNat : Int) = ((32 : UInt8).toNat : Nat) := hb; exact_mod_cast this)
            subst hb'
            simp [isV0] at hvf
          · left
            refine ⟨by simp, a, rfl, ?_⟩
            intro hb
            exact ha (UInt8.toNat.inj (by have : (a.toNat : Int) = ((18 : UInt8).toNat : Nat) := hb; exact_mod_cast this))
      · exact .inl h2
    obtain ⟨r1, h1⟩ : ∃ r1, uvRd l 0 0 = r1 := ⟨_, rfl⟩
    have hsr := specRead_any l
    rw [h1] at hcd hsr
    have HSR := Lib.hid (fun W => hsr W (by omega))
    have H1 := Lib.hid h1
    have HCD := Lib.hid hcd
    clear hcd hvf h1 hsr
    have fin : ∀ (x0 x1 : Nat) (t0 t1 : Bool), (2 < l.length → ∀ h, ((⟨l.toArray⟩ : ByteArray)[0]'h).toNat = x0) → (2 < l.length → ∀ h, ((⟨l.toArray⟩ : ByteArray)[1]'h).toNat = x1) → ((x0 : Int) == 18) = t0 → ((x1 : Int) == 32) = t1 → ¬ (2 < l.length ∧ t0 = true ∧ t1 = true) →
        Calls Tryd.prog 38 #[.string ⟨l.toArray⟩] w fun e w' => e = .returned (rcOf (cdRd l)) ∧ Below w.heap.size w w' := by
      intro x0 x1 t0 t1 i0 i1 e0 e1 hno
      by_cases h2 : 2 < l.length
      · have i0 := i0 h2
        have i1 := i1 h2
        cases t0 <;> cases t1
        all_goals try (exfalso; exact hno ⟨h2, rfl, rfl⟩)
        all_goals clear hno hsplit
        all_goals go_enter Tryd.func38, Tryd.ntmps38
        all_goals go_wp2_with fail
        all_goals
          refine (HSR.out _).mono ?_
          rintro e w1 ⟨rfl, rfl⟩
          cases r1 with
          | ends =>
            simp only [rvOf]
            go_wp2_with fail
            refine bodyPost_ret (ret_cell_tmp_tmp rfl rfl B0 Tryd.underlying30 (by kernel_rfl)) rfl ?_
            have hr : cdRd l = none := HCD.out
            rw [hr]
            exact ⟨rfl, b0⟩
          | long =>
            simp only [rvOf]
            go_wp2_with fail
            refine bodyPost_ret (ret_cell_tmp_tmp rfl rfl B0 Tryd.underlying30 (by kernel_rfl)) rfl ?_
            have hr : cdRd l = none := HCD.out
            rw [hr]
            exact ⟨rfl, b0⟩
          | needless =>
            simp only [rvOf]
            go_wp2_with fail
            refine bodyPost_ret (ret_cell_tmp_tmp rfl rfl B0 Tryd.underlying30 (by kernel_rfl)) rfl ?_
            have hr : cdRd l = none := HCD.out
            rw [hr]
            exact ⟨rfl, b0⟩
          | ok v n =>
            simp only [rvOf]
            have hok := uvRd_ok0 H1.out
            have hnl : n ≤ l.length := hok.2.1
            have hnI : (n : Int) ≤ (l.length : Int) := by omega
            have hcd := HCD.out
            clear hok
            by_cases hv1 : v = 1
            · subst hv1
              simp only [if_true] at hcd
              obtain ⟨r2, h2⟩ : ∃ r2, uvRd (l.drop n) 0 0 = r2 := ⟨_, rfl⟩
              have hs2 := fun W => specRead_any (l.drop n) W (by rw [List.length_drop]; omega)
              rw [h2] at hcd hs2
              have HS2 := Lib.hid hs2
              have H2 := Lib.hid h2
              have HC2 := Lib.hid hcd
              clear hs2 h2 hcd
              go_wp2_with fail
              rw [str_from l rfl]
              refine (HS2.out _).mono ?_
              rintro e w1 ⟨rfl, rfl⟩
              cases r2 with
              | ends =>
                simp only [rvOf]
                go_wp2_with fail
                refine bodyPost_ret (ret_cell_tmp_tmp rfl rfl B0 Tryd.underlying30 (by kernel_rfl)) rfl ?_
                have hr : cdRd l = none := HC2.out
                rw [hr]
                exact ⟨rfl, b0⟩
              | long =>
                simp only [rvOf]
                go_wp2_with fail
                refine bodyPost_ret (ret_cell_tmp_tmp rfl rfl B0 Tryd.underlying30 (by kernel_rfl)) rfl ?_
                have hr : cdRd l = none := HC2.out
                rw [hr]
                exact ⟨rfl, b0⟩
              | needless =>
                simp only [rvOf]
                go_wp2_with fail
                refine bodyPost_ret (ret_cell_tmp_tmp rfl rfl B0 Tryd.underlying30 (by kernel_rfl)) rfl ?_
                have hr : cdRd l = none := HC2.out
                rw [hr]
                exact ⟨rfl, b0⟩
              | ok codec m =>
                simp only [rvOf]
                have hok := uvRd_ok0 H2.out
                rw [List.length_drop] at hok
                have hnm : n + m ≤ l.length := by omega
                have hnmI : (n : Int) + (m : Int) ≤ (l.length : Int) := by omega
                have hcd := HC2.out
                obtain ⟨r3, h3⟩ : ∃ r3, mhRd (l.drop (n + m)) = r3 := ⟨_, rfl⟩
                have hs3 := fun W => specMh_any (l.drop (n + m)) W (by rw [List.length_drop]; omega)
                simp only [h3] at hcd hs3
                have HS3 := Lib.hid hs3
                have H3 := Lib.hid h3
                have HC3 := Lib.hid hcd
                clear hs3 h3 hcd hok
                go_wp2_with fail
                rw [str_from l rfl]
                refine (HS3.out _).mono ?_
                rintro e w3 ⟨rfl, b3⟩
                have b03 := Old.trans b0 b3
                have B3 := B0.old b3
                have f0 := B3.frozen 0
                have f1 := B3.frozen 1
                have f2 := B3.frozen 2
                have f3 := B3.frozen 3
                have c0 : w3.cell? ⟨w.heap.size, 0, none⟩ = some (.int .u64 0) := B3.cell 0
                have c1 : w3.cell? ⟨w.heap.size, 1, none⟩ = some (.int .u64 0) := B3.cell 1
                have c2 : w3.cell? ⟨w.heap.size, 2, none⟩ = some (.int .u64 0) := B3.cell 2
                have c3 : w3.cell? ⟨w.heap.size, 3, none⟩ = some (.string ⟨#[]⟩) := B3.cell 3
                cases r3 with
                | none =>
                  simp only [smOf]
                  go_wp2_with fail
                  refine bodyPost_ret (ret_cell_tmp_tmp rfl rfl (B3.row [.int .u64 0, .int .u64 0, .int .u64 0, .string ⟨#[]⟩] rfl) Tryd.underlying30 (by kernel_rfl)) rfl ?_
                  have hr : cdRd l = none := HC3.out
                  rw [hr]
                  exact ⟨rfl, below_setCells (Nat.le_refl _) [.int .u64 0, .int .u64 0, .int .u64 0, .string ⟨#[]⟩] 0 _ b03⟩
                | some y =>
                  obtain ⟨code, dg, q⟩ := y
                  simp only [smOf]
                  have hr : cdRd l = some (⟨1, codec, code, dg⟩, n + m + q) := HC3.out
                  have hql : n + m + q ≤ l.length := (cdRd_some hr).2.1
                  obtain ⟨K, hK⟩ : ∃ K, n + m + q = K := ⟨_, rfl⟩
                  rw [hK] at hr hql
                  have hqI : (n : Int) + (m : Int) + (q : Int) = (K : Int) := by omega
                  have hKl : K ≤ 1000000 := by omega
                  have hwK : IntKind.i64.wrap (K : Int) = (K : Int) := by rw [IntKind.wrap_i64]; omega
                  have HRR := Lib.hid (And.intro hr hK)
                  clear hr hK hql
                  go_wp2_with fail
                  refine bodyPost_ret (ret_cell_tmp_tmp rfl rfl (B3.row [.int .u64 1, .int .u64 codec, .int .u64 code, .string ⟨dg.toArray⟩] rfl) Tryd.underlying30 (by kernel_rfl)) rfl ?_
                  rw [HRR.out.1]
                  exact ⟨rfl, below_setCells (Nat.le_refl _) [.int .u64 1, .int .u64 codec, .int .u64 code, .string ⟨dg.toArray⟩] 0 _ b03⟩
            · have hv1d : ((v : Int) == 1) = false := by simp; omega
              simp only [if_neg hv1] at hcd
              have HC2 := Lib.hid hcd
              clear hcd hv1
              go_wp2_with fail
              refine bodyPost_ret (ret_cell_tmp_tmp rfl rfl B0 Tryd.underlying30 (by kernel_rfl)) rfl ?_
              have hr : cdRd l = none := HC2.out
              rw [hr]
              exact ⟨rfl, b0⟩
      · clear i0 i1 e0 e1 hno hsplit
        go_enter Tryd.func38, Tryd.ntmps38
        go_wp2_with fail
        refine (HSR.out _).mono ?_
        rintro e w1 ⟨rfl, rfl⟩
        cases r1 with
        | ends =>
          simp only [rvOf]
          go_wp2_with fail
          refine bodyPost_ret (ret_cell_tmp_tmp rfl rfl B0 Tryd.underlying30 (by kernel_rfl)) rfl ?_
          have hr : cdRd l = none := HCD.out
          rw [hr]
          exact ⟨rfl, b0⟩
        | long =>
          simp only [rvOf]
          go_wp2_with fail
          refine bodyPost_ret (ret_cell_tmp_tmp rfl rfl B0 Tryd.underlying30 (by kernel_rfl)) rfl ?_
          have hr : cdRd l = none := HCD.out
          rw [hr]
          exact ⟨rfl, b0⟩
        | needless =>
          simp only [rvOf]
          go_wp2_with fail
          refine bodyPost_ret (ret_cell_tmp_tmp rfl rfl B0 Tryd.underlying30 (by kernel_rfl)) rfl ?_
          have hr : cdRd l = none := HCD.out
          rw [hr]
          exact ⟨rfl, b0⟩
        | ok v n =>
          simp only [rvOf]
          have hok := uvRd_ok0 H1.out
          have hnl : n ≤ l.length := hok.2.1
          have hnI : (n : Int) ≤ (l.length : Int) := by omega
          have hcd := HCD.out
          clear hok
          by_cases hv1 : v = 1
          · subst hv1
            simp only [if_true] at hcd
            obtain ⟨r2, h2⟩ : ∃ r2, uvRd (l.drop n) 0 0 = r2 := ⟨_, rfl⟩
            have hs2 := fun W => specRead_any (l.drop n) W (by rw [List.length_drop]; omega)
            rw [h2] at hcd hs2
            have HS2 := Lib.hid hs2
            have H2 := Lib.hid h2
            have HC2 := Lib.hid hcd
            clear hs2 h2 hcd
            go_wp2_with fail
            rw [str_from l rfl]
            refine (HS2.out _).mono ?_
            rintro e w1 ⟨rfl, rfl⟩
            cases r2 with
            | ends =>
              simp only [rvOf]
              go_wp2_with fail
              refine bodyPost_ret (ret_cell_tmp_tmp rfl rfl B0 Tryd.underlying30 (by kernel_rfl)) rfl ?_
              have hr : cdRd l = none := HC2.out
              rw [hr]
              exact ⟨rfl, b0⟩
            | long =>
              simp only [rvOf]
              go_wp2_with fail
              refine bodyPost_ret (ret_cell_tmp_tmp rfl rfl B0 Tryd.underlying30 (by kernel_rfl)) rfl ?_
              have hr : cdRd l = none := HC2.out
              rw [hr]
              exact ⟨rfl, b0⟩
            | needless =>
              simp only [rvOf]
              go_wp2_with fail
              refine bodyPost_ret (ret_cell_tmp_tmp rfl rfl B0 Tryd.underlying30 (by kernel_rfl)) rfl ?_
              have hr : cdRd l = none := HC2.out
              rw [hr]
              exact ⟨rfl, b0⟩
            | ok codec m =>
              simp only [rvOf]
              have hok := uvRd_ok0 H2.out
              rw [List.length_drop] at hok
              have hnm : n + m ≤ l.length := by omega
              have hnmI : (n : Int) + (m : Int) ≤ (l.length : Int) := by omega
              have hcd := HC2.out
              obtain ⟨r3, h3⟩ : ∃ r3, mhRd (l.drop (n + m)) = r3 := ⟨_, rfl⟩
              have hs3 := fun W => specMh_any (l.drop (n + m)) W (by rw [List.length_drop]; omega)
              simp only [h3] at hcd hs3
              have HS3 := Lib.hid hs3
              have H3 := Lib.hid h3
              have HC3 := Lib.hid hcd
              clear hs3 h3 hcd hok
              go_wp2_with fail
              rw [str_from l rfl]
              refine (HS3.out _).mono ?_
              rintro e w3 ⟨rfl, b3⟩
              have b03 := Old.trans b0 b3
              have B3 := B0.old b3
              have f0 := B3.frozen 0
              have f1 := B3.frozen 1
              have f2 := B3.frozen 2
              have f3 := B3.frozen 3
              have c0 : w3.cell? ⟨w.heap.size, 0, none⟩ = some (.int .u64 0) := B3.cell 0
              have c1 : w3.cell? ⟨w.heap.size, 1, none⟩ = some (.int .u64 0) := B3.cell 1
              have c2 : w3.cell? ⟨w.heap.size, 2, none⟩ = some (.int .u64 0) := B3.cell 2
              have c3 : w3.cell? ⟨w.heap.size, 3, none⟩ = some (.string ⟨#[]⟩) := B3.cell 3
              cases r3 with
              | none =>
                simp only [smOf]
                go_wp2_with fail
                refine bodyPost_ret (ret_cell_tmp_tmp rfl rfl (B3.row [.int .u64 0, .int .u64 0, .int .u64 0, .string ⟨#[]⟩] rfl) Tryd.underlying30 (by kernel_rfl)) rfl ?_
                have hr : cdRd l = none := HC3.out
                rw [hr]
                exact ⟨rfl, below_setCells (Nat.le_refl _) [.int .u64 0, .int .u64 0, .int .u64 0, .string ⟨#[]⟩] 0 _ b03⟩
              | some y =>
                obtain ⟨code, dg, q⟩ := y
                simp only [smOf]
                have hr : cdRd l = some (⟨1, codec, code, dg⟩, n + m + q) := HC3.out
                have hql : n + m + q ≤ l.length := (cdRd_some hr).2.1
                obtain ⟨K, hK⟩ : ∃ K, n + m + q = K := ⟨_, rfl⟩
                rw [hK] at hr hql
                have hqI : (n : Int) + (m : Int) + (q : Int) = (K : Int) := by omega
                have hKl : K ≤ 1000000 := by omega
                have hwK : IntKind.i64.wrap (K : Int) = (K : Int) := by rw [IntKind.wrap_i64]; omega
                have HRR := Lib.hid (And.intro hr hK)
                clear hr hK hql
                go_wp2_with fail
                refine bodyPost_ret (ret_cell_tmp_tmp rfl rfl (B3.row [.int .u64 1, .int .u64 codec, .int .u64 code, .string ⟨dg.toArray⟩] rfl) Tryd.underlying30 (by kernel_rfl)) rfl ?_
                rw [HRR.out.1]
                exact ⟨rfl, below_setCells (Nat.le_refl _) [.int .u64 1, .int .u64 codec, .int .u64 code, .string ⟨dg.toArray⟩] 0 _ b03⟩
          · have hv1d : ((v : Int) == 1) = false := by simp; omega
            simp only [if_neg hv1] at hcd
            have HC2 := Lib.hid hcd
            clear hcd hv1
            go_wp2_with fail
            refine bodyPost_ret (ret_cell_tmp_tmp rfl rfl B0 Tryd.underlying30 (by kernel_rfl)) rfl ?_
            have hr : cdRd l = none := HC2.out
            rw [hr]
            exact ⟨rfl, b0⟩
    rcases hsplit with h2 | ⟨h2, a, ha, hne⟩ | ⟨h2, ha0, a, ha, hne⟩
    · exact fin 0 0 _ _ (fun h => absurd h h2) (fun h => absurd h h2) rfl rfl (fun h => h2 h.1)
    · exact fin a.toNat (l[1]'(by omega)).toNat _ _ (fun _ h => congrArg UInt8.toNat (List.getElem?_eq_some_iff.1 ha).2) (fun _ h => rfl) rfl rfl (fun h => hne (by simpa using h.2.1))
    · exact fin (l[0]'(by omega)).toNat a.toNat _ _ (fun _ h => rfl) (fun _ h => congrArg UInt8.toNat (List.getElem?_eq_some_iff.1 ha).2) rfl rfl (fun h => hne (by simpa using h.2.2))
end Go.Proofs.YtgkhofnedhlgdaaDoor
