/-
  The walks of multihash.Cast, cid.CidFromBytes (of bytes that begin with an identifier), impl.CdRead, laws.cdOne. Conditions: as each contract says.
-/
import Derived.Test.YtaionnajhgjekaaDoorCdR
namespace Go.Proofs.YtaionnajhgjekaaDoor
open Go.RowKit

set_option maxRecDepth 100000 in
set_option maxHeartbeats 2000000 in
theorem mhCast_any (g o n c : Nat) (m d : List UInt8) (code : Nat) (w : World) (hn : n = m.length) (hl : m.length ≤ 2147483647) (hlc : m.length ≤ c) (hc : Bs w g o m) (hg : g < w.heap.size) (hr : mhRd m = some (code, d, m.length))
    (e0 : Er w 4) (e1 : Er w 5) (e2 : Er w 7) (e3 : Er w 8) :
    Calls Tryd.prog 59 #[.slice (some ⟨g, o, none⟩) n c] w fun e w' => e = .returned (.tuple #[.slice (some ⟨g, o, none⟩) n c, .nilIface]) ∧ Below w.heap.size w w' := by
  have HN := Lib.hid hn
  have hdec := mhDecode_any g o n c m w hn hl hlc hc hg e0 e1 e2 e3
  rw [hr] at hdec
  have HD := Lib.hid hdec
  clear hdec hn hr hc
  go_enter Tryd.func59, Tryd.ntmps59
  go_wp2_with fail
  refine HD.out.mono ?_
  rintro e w1 ⟨b1, hy, _⟩
  obtain ⟨b, o2, cc, rfl, B1, _, _⟩ := hy rfl
  clear hy
  go_wp2_with fail
  go_ret2
  exact ⟨rfl, b1⟩

/-- What bytes are that begin with an identifier of version 0. -/
theorem cdRd_v0 {l : List UInt8} {x : CidL} {k : Nat} (h : cdRd l = some (x, k)) (hv : isV0 l = true) : k = 34 ∧ 34 ≤ l.length ∧ l[0]? = some 18 ∧ l[1]? = some 32 ∧ x.wr = l.take 34 ∧ mhRd (l.take 34) = some (18, x.digest, 34) := by
  obtain ⟨ht, h1, h2, h3, h4, h5⟩ := cdRd_some h
  rw [cdRd, if_pos hv] at h
  split at h
  · cases h
  · injection h with h
    injection h with h6 h7
    subst h6 h7
    simp [isV0] at hv
    have hw := wr_v0 ht rfl
    refine ⟨rfl, h1, hv.1.2, hv.2, h4.symm, ?_⟩
    rw [h4, CidL.wr, if_pos rfl]
    have := mhRd_mhWr 18 ((l.drop 2).take 32) [] (by omega) (by have := hw.2.1; simp only at this; omega)
    rw [List.append_nil] at this
    rw [this]
    have hl := h5
    rw [CidL.wr, if_pos rfl] at hl
    rw [← hl]
/-- What bytes are that begin with an identifier of version 1. -/
theorem cdRd_v1 {l : List UInt8} {x : CidL} {k : Nat} (h : cdRd l = some (x, k)) (hv : isV0 l = false) : ∃ m j, l[0]? = some 1 ∧ 3 < l.length ∧ uvRd l 0 0 = .ok 1 1 ∧ uvRd (l.drop 1) 0 0 = .ok x.codec m ∧ mhRd (l.drop (1 + m)) = some (x.code, x.digest, j) ∧ k = 1 + m + j ∧ k ≤ l.length ∧ x.wr = l.take k ∧ 1 + m + 1 < l.length := by
  obtain ⟨ht, h1, h2, h3, h4, h5⟩ := cdRd_some h
  rw [cdRd, hv, if_neg (by simp)] at h
  split at h
  · rename_i v n1 u1
    split at h
    · rename_i hv1
      split at h
      · rename_i codec m u2
        split at h
        · rename_i code d j u3
          injection h with h
          injection h with h6 h7
          subst h6 h7 hv1
          obtain ⟨a1, a2, a3, a4⟩ := uvRd_ok0 u1
          obtain ⟨b1, b2, b3, b4⟩ := uvRd_ok0 u2
          obtain ⟨_, _, _, _, _, c1, c2, c3, c4, _⟩ := mhRd_some u3
          obtain ⟨f1, f2⟩ := uvRd_canon0 u1
          rw [uv1] at f1 f2
          simp only [List.length_cons, List.length_nil] at f2
          subst f2
          rw [List.length_drop] at b2 c2
          refine ⟨m, j, ?_, by omega, u1, u2, u3, rfl, h1, h4.symm, by omega⟩
          match l, f1 with
          | y :: l', f1 => simp at f1; simp [f1]
        · cases h
      · cases h
    · cases h
  · cases h

set_option maxRecDepth 100000 in
set_option maxHeartbeats 2000000 in
theorem cidFromBytes_ok (g o n c : Nat) (l : List UInt8) (x : CidL) (k : Nat) (w : World) (hn : n = l.length) (hl : l.length ≤ 2147483647) (hlc : l.length ≤ c) (hc : Bs w g o l) (hg : g < w.heap.size) (hr : cdRd l = some (x, k))
    (e0 : Er w 4) (e1 : Er w 5) (e2 : Er w 7) (e3 : Er w 8) :
    Calls Tryd.prog 43 #[.slice (some ⟨g, o, none⟩) n c] w fun e w' => e = .returned (.tuple #[.int .i64 k, .agg #[.string ⟨x.wr.toArray⟩], .nilIface]) ∧ Below w.heap.size w w' := by
  have q0 : ∀ y, l[0]? = some y → w.cell? ⟨g, o, none⟩ = some (.int .u8 ((y.toNat : Nat) : Int)) := by
    intro y hy
    obtain ⟨h, rfl⟩ := List.getElem?_eq_some_iff.1 hy
    exact hc 0 h
  have q1 : ∀ y, l[1]? = some y → w.cell? ⟨g, o + 1, none⟩ = some (.int .u8 ((y.toNat : Nat) : Int)) := by
    intro y hy
    obtain ⟨h, rfl⟩ := List.getElem?_eq_some_iff.1 hy
    exact hc 1 h
  by_cases hv : isV0 l = true
  · obtain ⟨rfl, h34, y0, y1, hw, hm⟩ := cdRd_v0 hr hv
    have q0 := q0 _ y0
    have q1 := q1 _ y1
    have hlt : (l.take 34).length = 34 := by simp; omega
    have HN := Lib.hid (And.intro hn (And.intro hm (And.intro hlt hw)))
    have hd2 : 2 < n := by omega
    have hd34 : 34 ≤ n := by omega
    have hcap : 34 ≤ c := by omega
    have bA : Below w.heap.size w (w.alloc (.cells #[.string ⟨#[]⟩] 72)) := Old.alloc (Below.refl _ _) _
    have BA := Blk.new w 72 #[.string ⟨#[]⟩]
    clear hm hw hr y0 y1 hv hn hlt
    go_enter Tryd.func43, Tryd.ntmps43
    go_wp2_with fail
    generalize w.alloc (.cells #[.string ⟨#[]⟩] 72) = W at *
    have hc1 : Bs W g o (l.take 34) := (hc.old bA).take 34
    refine (mhCast_any g o 34 c (l.take 34) x.digest 18 W HN.out.2.2.1.symm (by rw [HN.out.2.2.1]; omega) (by rw [HN.out.2.2.1]; exact hcap) hc1 (Nat.lt_of_lt_of_le hg bA.size) (by rw [HN.out.2.2.1]; exact HN.out.2.1) (e0.old bA) (e1.old bA) (e2.old bA) (e3.old bA)).mono ?_
    rintro e w1 ⟨rfl, b1⟩
    have b01 := Old.trans bA b1
    have BX := BA.old b1
    have qX : w1.cell? ⟨w.heap.size, 0, none⟩ = some (.string ⟨#[]⟩) := BX.cell 0
    have fX := BX.frozen 0
    have hcv : (convert 104 9 (.slice (some ⟨g, o, none⟩) 34 c)).run Tryd.prog w1.drew = .ok (.string ⟨(l.take 34).toArray⟩) w1.drew := conv_str (P := Tryd.prog) Tryd.underlying104 Tryd.underlying5 Tryd.underlying9 (n := 34) (c := c) ((hc1.old b1).drewN 1) HN.out.2.2.1.symm
    clear BA b1 bA hc hc1 q0 q1
    go_wp2_with fail
    refine wp_region_noPanic ?_
    go_region_with (fail)
    all_goals refine NoPanic.normal ?_
    all_goals go_wp2_with fail
    rw [HN.out.2.2.2]
    refine bodyPost_ret (ret_tmp_cell_tmp rfl rfl (BX.set_ 0 (.string ⟨(l.take 34).toArray⟩)) Tryd.underlying72 (by kernel_rfl)) rfl ?_
    exact ⟨rfl, RowKit.Below.drew (b01.setCell (p := ⟨w.heap.size, 0, none⟩) (Nat.le_refl _) _)⟩
  · obtain ⟨m, j, y0, h3, r1, r2, r3, hk, hkl, hw, hml⟩ := cdRd_v1 hr (by simpa using hv)
    have q0 := q0 _ y0
    have HN := Lib.hid (And.intro hn (And.intro r1 (And.intro r2 (And.intro r3 hw))))
    have hd2 : 2 < n := by omega
    have bA : Below w.heap.size w (w.alloc (.cells #[.string ⟨#[]⟩] 72)) := Old.alloc (Below.refl _ _) _
    have BA := Blk.new w 72 #[.string ⟨#[]⟩]
    clear hr y0 hv r1 r2 r3 hw
    have hcn : n ≤ c := by omega
    have hmn : 1 + m ≤ n := by omega
    have hmc : c ≠ 1 + m := by omega
    have hc1' : c ≠ 1 := by omega
    clear hn
    go_enter Tryd.func43, Tryd.ntmps43
    go_wp2_with fail
    generalize w.alloc (.cells #[.string ⟨#[]⟩] 72) = W at *
    have hc1 := hc.old bA
    have hf := fromUvarint_any g o c l W (by omega) hc1 (e0.old bA) (e1.old bA) (e2.old bA)
    rw [HN.out.2.1, ← HN.out.1] at hf
    refine hf.mono ?_
    clear hf
    rintro e w1 ⟨⟨k1, rfl⟩, rfl⟩
    go_wp2_with fail
    have hbs2 := (bs_from hc1 1).drewN k1
    have hf := fromUvarint_any g (o + 1) (c - 1) (l.drop 1) (W.drewN k1) (by rw [List.length_drop]; omega) hbs2 (e0.old (below_drewN bA k1)) (e1.old (below_drewN bA k1)) (e2.old (below_drewN bA k1))
    rw [List.length_drop, HN.out.2.2.1, ← HN.out.1] at hf
    refine hf.mono ?_
    clear hf hbs2
    rintro e w2 ⟨⟨k2, rfl⟩, rfl⟩
    go_wp2_with fail
    have hbs3 := (bs_from hc1 (1 + m)).drewN (k1 + k2)
    have b3 := below_drewN bA (k1 + k2)
    have hmf := mhFromBytes_any g (o + (1 + m)) (n - (1 + m)) (c - (1 + m)) (l.drop (1 + m)) (W.drewN (k1 + k2)) (by rw [List.length_drop, HN.out.1]) (by rw [List.length_drop]; omega) (by rw [List.length_drop, ← HN.out.1]; omega) hbs3 (e0.old b3) (e1.old b3) (e2.old b3) (e3.old b3)
    rw [HN.out.2.2.2.1] at hmf
    refine hmf.mono ?_
    clear hmf hbs3
    rintro e w3 ⟨b4, rfl⟩
    have b04 := Old.trans b3 b4
    have BX := (BA.drewN (k1 + k2)).old b4
    have qX : w3.cell? ⟨w.heap.size, 0, none⟩ = some (.string ⟨#[]⟩) := BX.cell 0
    have fX := BX.frozen 0
    have hkn : (l.take k).length = k := by rw [List.length_take, Nat.min_eq_left hkl]
    have hcv : (convert 48 9 (.slice (some ⟨g, o, none⟩) k c)).run Tryd.prog w3.drew = .ok (.string ⟨(l.take k).toArray⟩) w3.drew := conv_str (P := Tryd.prog) Tryd.underlying48 Tryd.underlying5 Tryd.underlying9 (n := k) (c := c) ((((hc1.drewN (k1 + k2)).old b4).take k).drewN 1) hkn.symm
    have hk' : 1 + m + j = k := hk.symm
    have hkN : k ≤ n := by rw [HN.out.1]; exact hkl
    have hkI : (1 : Int) + m + j = k := by omega
    have HK := Lib.hid hk
    clear BA b3 b4 bA hc hc1 q0 hk hkn
    go_wp2_with fail
    refine wp_region_noPanic ?_
    go_region_with (fail)
    all_goals refine NoPanic.normal ?_
    all_goals go_wp2_with fail
    all_goals rw [HN.out.2.2.2.2]
    all_goals refine bodyPost_ret (ret_tmp_cell_tmp rfl rfl (BX.set_ 0 (.string ⟨(l.take k).toArray⟩)) Tryd.underlying72 (by kernel_rfl)) rfl ?_
    all_goals exact ⟨rfl, RowKit.Below.drew (b04.setCell (p := ⟨w.heap.size, 0, none⟩) (Nat.le_refl _) _)⟩

end Go.Proofs.YtaionnajhgjekaaDoor
