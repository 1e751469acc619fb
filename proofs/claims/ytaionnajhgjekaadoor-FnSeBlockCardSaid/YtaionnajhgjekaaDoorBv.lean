/-
  The walk of (*bytes.Buffer).Write, with the row of the buffer named. Conditions: as the contract says.
-/
import Derived.Test.YtaionnajhgjekaaDoorBu
namespace Go.Proofs.YtaionnajhgjekaaDoor
open Go.RowKit

/-- What Write comes to. -/
def WrPost (b : Nat) (row : Option Nat) (l m : List UInt8) (w : World) (e : Ending) (w' : World) : Prop :=
  e = .returned (.tuple #[.int .i64 m.length, .nilIface]) ∧ (∃ row', BuS w' b row' (l ++ m) ∧ (row' = row ∨ ∃ g', row' = some g' ∧ w.heap.size ≤ g')) ∧ Kp (b :: row.toList) w w'

theorem wr_end {w X : World} {b g N cap : Nat} {row : Option Nat} {l m : List UInt8} {lr : Int} {zs : List Value} (B : Blk X b 52 #[.slice (some ⟨g, 0, none⟩) N cap, .int .i64 0, .int .i8 lr]) (G : Blk X g 5 (Lib.byteCells l ++ zs).toArray) (hN : N = l.length + m.length)
    (hc : l.length + zs.length = cap) (hm : cap ≤ maxLen) (hgb : g ≠ b) (hz : m.length ≤ zs.length) (hr : row = some g ∨ w.heap.size ≤ g) (K : Kp (b :: row.toList) w X) (K' : Int) (hK : K' = m.length) :
    WrPost b row l m w (.returned (.tuple #[.int .i64 K', .nilIface])) (X.setCells g l.length (Lib.byteCells m)) := by
  subst hN hK
  have G' := blk_mid G l.length (Lib.byteCells_length l) (Lib.byteCells m) (by rw [Lib.byteCells_length]; exact hz)
  rw [← Lib.byteCells_append, Lib.byteCells_length] at G'
  have hgl : g ∈ b :: row.toList ∨ w.heap.size ≤ g := by
    rcases hr with rfl | h
    · exact .inl (by simp)
    · exact .inr h
  refine ⟨rfl, ⟨some g, ⟨lr, _, B.kp (Kp.of_setCells (l := [g]) (by simp) _ _ _ (Kp.refl _ _)) (by simpa using fun h => hgb h.symm), .inr ⟨g, cap, zs.drop m.length, rfl, by rw [List.length_append], G', by rw [List.length_append, List.length_drop]; omega, hm, hgb⟩⟩, ?_⟩, ?_⟩
  · rcases hr with h | h
    · exact .inl h.symm
    · exact .inr ⟨g, rfl, h⟩
  · exact Kp.of_setCells hgl _ _ _ K

set_option maxRecDepth 100000 in
set_option maxHeartbeats 2000000 in
theorem bufWrite_any (b : Nat) (row : Option Nat) (l m : List UInt8) (g0 o n c : Nat) (w : World) (h : BuS w b row l) (hs : Bs w g0 o m) (hn : n = m.length) (hnc : n ≤ c) (hgb : g0 ≠ b) (hgr : ∀ g, row = some g → g0 ≠ g) (hlim : l.length + m.length ≤ 1000000000) :
    Calls Tryd.prog 97 #[.pointer (some ⟨b, 0, none⟩), .slice (some ⟨g0, o, none⟩) n c] w (WrPost b row l m w) := by
  obtain ⟨i0, hi0, hz0, hz1, hz2⟩ := info_parts info5
  obtain ⟨lr, v, B, hv⟩ := h
  have f2 := B.frozen 2
  have q2 : w.cell? ⟨b, 2, none⟩ = some (.int .i8 lr) := B.cell 2
  have B1 := B.set_ 2 (.int .i8 0)
  have B1' : Blk (w.setCell ⟨b, 2, none⟩ (.int .i8 0)) b 52 #[v, .int .i64 0, .int .i8 0] := B1
  have K1 : Kp [b] w (w.setCell ⟨b, 2, none⟩ (.int .i8 0)) := (Kp.refl _ _).setCell (p := ⟨b, 2, none⟩) (.inl (by simp)) _
  clear B1
  by_cases h0 : n = 0
  · subst h0
    obtain rfl := List.eq_nil_of_length_eq_zero hn.symm
    clear hn
    have hcp := fun W x y k => run_copy_none (P := Tryd.prog) W 48 48 3 5 x (some ⟨g0, o, none⟩) y k 0 c Tryd.underlying48 (by rw [hi0]; exact congrArg some hz1) (Nat.zero_min _)
    clear hi0 hz0 hz1 hz2
    rcases hv with ⟨rfl, rfl, rfl⟩ | ⟨g, cap, zs, rfl, rfl, G, hc, hm, hne⟩
    · go_enter Tryd.func97, Tryd.ntmps97
      go_wp2_with fail
      clear q2 f2 B
      generalize w.setCell ⟨b, 2, none⟩ (.int .i8 0) = W1 at *
      have q0 : W1.cell? ⟨b, 0, none⟩ = some (.slice none 0 0) := B1'.cell 0
      have f0 := B1'.frozen 0
      refine (Tryd.Buffer_tryGrow_room_at b 0 none 0 0 0 W1 q0 f0 (Nat.le_refl _) (by unfold maxLen; omega) (Nat.le_refl _)).mono ?_
      rintro e w2 ⟨rfl, hw2⟩
      have B2 := B1'.set_ 0 (.slice none (0 + 0) 0)
      have K2 := K1.setCell (p := ⟨b, 0, none⟩) (.inl (by simp)) (.slice none (0 + 0) 0)
      rw [← hw2] at B2 K2
      have q20 : w2.cell? ⟨b, 0, none⟩ = some (.slice none 0 0) := B2.cell 0
      clear hw2
      go_wp2_with fail
      go_ret2
      exact ⟨rfl, ⟨none, ⟨0, _, B2, .inl ⟨rfl, rfl, rfl⟩⟩, .inl rfl⟩, by simpa using K2⟩
    · obtain ⟨k, hk⟩ : ∃ k, l.length = k := ⟨_, rfl⟩
      rw [hk] at B1' hc
      have hkc : k ≤ cap := by omega
      have hkc' : (k : Int) ≤ (cap : Int) := by omega
      have hm' := hm
      unfold maxLen at hm'
      have HK := Lib.hid (And.intro hk hc)
      clear hk
      go_enter Tryd.func97, Tryd.ntmps97
      go_wp2_with fail
      clear q2 f2 B
      have G1 := G.far (p := ⟨b, 2, none⟩) hne (.int .i8 0)
      clear G
      generalize w.setCell ⟨b, 2, none⟩ (.int .i8 0) = W1 at *
      have q0 : W1.cell? ⟨b, 0, none⟩ = some (.slice (some ⟨g, 0, none⟩) k cap) := B1'.cell 0
      have f0 := B1'.frozen 0
      refine (Tryd.Buffer_tryGrow_room_at b 0 (some ⟨g, 0, none⟩) k cap 0 W1 q0 f0 hkc hm (Nat.zero_le _)).mono ?_
      rintro e w2 ⟨rfl, hw2⟩
      have B2 := B1'.set_ 0 (.slice (some ⟨g, 0, none⟩) (k + 0) cap)
      have G2 := G1.far (p := ⟨b, 0, none⟩) hne (.slice (some ⟨g, 0, none⟩) (k + 0) cap)
      have K2 := K1.setCell (p := ⟨b, 0, none⟩) (.inl (by simp)) (.slice (some ⟨g, 0, none⟩) (k + 0) cap)
      rw [← hw2] at B2 K2 G2
      have q20 : w2.cell? ⟨b, 0, none⟩ = some (.slice (some ⟨g, 0, none⟩) k cap) := B2.cell 0
      clear hw2
      by_cases hkk : cap = k
      all_goals
        go_wp2_with fail
        go_ret2
        refine ⟨rfl, ⟨some g, ⟨0, _, B2, .inr ⟨g, cap, zs, rfl, ?_, ?_, ?_, hm, hne⟩⟩, .inl rfl⟩, ?_⟩
        · rw [List.append_nil, HK.out.1]; rfl
        · rw [List.append_nil]; exact G2
        · rw [List.append_nil, HK.out.1]; exact HK.out.2
        · exact K2.weaken (by simp)
  · obtain ⟨k, hk⟩ : ∃ k, l.length = k := ⟨_, rfl⟩
    have hn1 : 1 ≤ n := by omega
    have hlim' : k + n ≤ 1000000000 := by omega
    have hlm : (Lib.byteCells m).length = n := by rw [Lib.byteCells_length, hn]
    have hlk : (Lib.byteCells l).length = k := by rw [Lib.byteCells_length, hk]
    have hs1 : Bs (w.setCell ⟨b, 2, none⟩ (.int .i8 0)) g0 o m := hs.far (p := ⟨b, 2, none⟩) hgb _
    have hroom : (∃ g cap zs, row = some g ∧ v = .slice (some ⟨g, 0, none⟩) k cap ∧ Blk w g 5 (Lib.byteCells l ++ zs).toArray ∧ k + zs.length = cap ∧ cap ≤ maxLen ∧ g ≠ b ∧ n ≤ zs.length) ∨
        (∃ ao cap, v = .slice ao k cap ∧ k ≤ cap ∧ cap ≤ maxLen ∧ cap - k < n ∧ ∀ W, Blk W b 52 #[v, .int .i64 0, .int .i8 0] → (∀ g, row = some g → W.heap[g]? = w.heap[g]?) → Calls Tryd.prog 100 #[.pointer (some ⟨b, 0, none⟩), .int .i64 n] W (GrPost b n l W)) := by
      rcases hv with ⟨rfl, rfl, rfl⟩ | ⟨g, cap, zs, rfl, rfl, G, hc, hm, hne⟩
      · right
        simp only [List.length_nil] at hk
        subst hk
        refine ⟨none, 0, rfl, Nat.le_refl _, by unfold maxLen; omega, by omega, fun W hW _ => ?_⟩
        by_cases h64 : n ≤ 64
        · exact grow_nil_small b n 0 W hW hn1 h64
        · exact grow_nil_big b n 0 W hW (by omega) (by omega)
      · by_cases hz : n ≤ zs.length
        · left; exact ⟨g, cap, zs, rfl, by rw [hk], G, by omega, hm, hne, hz⟩
        · right
          refine ⟨some ⟨g, 0, none⟩, cap, by rw [hk], by omega, hm, by omega, fun W hW hg => ?_⟩
          exact grow_row b g n cap l zs 0 W hW ((hg g rfl).trans G) hc hm hne hn1 (by omega) (by omega)
    have hrb : ∀ g, row = some g → g ≠ b := by
      rcases hv with ⟨rfl, _⟩ | ⟨g, cap, zs, rfl, rfl, G, hc, hm, hne⟩
      · intro g hg; cases hg
      · intro g' hg'; injection hg' with e; rw [← e]; exact hne
    have HRB := Lib.hid hrb
    have zb := B.lt
    have HK := Lib.hid (And.intro hk (And.intro hlm (And.intro hlk hn)))
    clear hk hlm hlk hn hv hrb
    rcases hroom with ⟨g, cap, zs, rfl, rfl, G, hc, hm, hne, hz⟩ | ⟨ao, cap, rfl, hkc, hm, hlt, hgr⟩
    · have hkn : k + n ≤ cap := by omega
      have hkn' : (k : Int) + (n : Int) ≤ (cap : Int) := by omega
      have hkc : ¬ cap = k := by omega
      have hm' := hm
      unfold maxLen at hm'
      have G1 := G.far (p := ⟨b, 2, none⟩) hne (.int .i8 0)
      have HC := Lib.hid (And.intro hc hz)
      clear hc G
      go_enter Tryd.func97, Tryd.ntmps97
      go_wp2_with fail
      clear q2 f2 B hs
      generalize w.setCell ⟨b, 2, none⟩ (.int .i8 0) = W1 at *
      have q0 : W1.cell? ⟨b, 0, none⟩ = some (.slice (some ⟨g, 0, none⟩) k cap) := B1'.cell 0
      have f0 := B1'.frozen 0
      refine (Tryd.Buffer_tryGrow_room_at b 0 (some ⟨g, 0, none⟩) k cap n W1 q0 f0 (by omega) hm (by omega)).mono ?_
      rintro e w2 ⟨rfl, hw2⟩
      have B2 := B1'.set_ 0 (.slice (some ⟨g, 0, none⟩) (k + n) cap)
      have G2 := G1.far (p := ⟨b, 0, none⟩) hne (.slice (some ⟨g, 0, none⟩) (k + n) cap)
      have K2 := K1.setCell (p := ⟨b, 0, none⟩) (.inl (by simp)) (.slice (some ⟨g, 0, none⟩) (k + n) cap)
      have s2 := hs1.far (p := ⟨b, 0, none⟩) hgb (.slice (some ⟨g, 0, none⟩) (k + n) cap)
      rw [← hw2] at B2 K2 G2 s2
      have q20 : w2.cell? ⟨b, 0, none⟩ = some (.slice (some ⟨g, 0, none⟩) (k + n) cap) := B2.cell 0
      clear hw2 q0 f0 K1 B1' G1 hs1
      have hcp := run_copy_cells (P := Tryd.prog) w2 48 48 3 5 g k n (cap - k) ⟨g0, o, none⟩ n c (Lib.byteCells m) Tryd.underlying48 (by rw [hi0]; exact congrArg some hz1)
        (by rw [HK.out.2.1]; exact (Nat.min_self n).symm) (bs_src s2) (by
          intro j hj
          rw [HK.out.2.1] at hj
          exact (blk_some G2 (by rw [List.length_append, HK.out.2.2.1]; have := HC.out.2; omega)).1) (by
          intro j hj
          exact G2.frozen _) (bytes_one _)
      rw [HK.out.2.1] at hcp
      go_wp2_with fail
      go_ret2
      have he := wr_end (w := w) (row := some g) (m := m) B2 G2 (by rw [HK.out.1, HK.out.2.2.2]) (by rw [HK.out.1]; exact HC.out.1) hm hne (by have := HC.out.2; have := HK.out.2.2.2; omega) (.inl rfl) (K2.weaken (by simp)) n (by rw [HK.out.2.2.2])
      rw [HK.out.1] at he
      exact he
    · go_enter Tryd.func97, Tryd.ntmps97
      go_wp2_with fail
      clear q2 f2 B hs
      have hgr1 := hgr _ B1' (fun g hg => Below.heap_setCell w ⟨b, 2, none⟩ _ g (HRB.out g hg))
      have HG := Lib.hid hgr1
      have hw1 : (w.setCell ⟨b, 2, none⟩ (.int .i8 0)).heap.size = w.heap.size := by simp [World.setCell]
      have HW := Lib.hid hw1
      clear hgr hgr1 hw1
      generalize w.setCell ⟨b, 2, none⟩ (.int .i8 0) = W1 at *
      have q0 : W1.cell? ⟨b, 0, none⟩ = some (.slice ao k cap) := B1'.cell 0
      refine (Tryd.Buffer_tryGrow_none_at b 0 ao k cap n W1 q0 hkc hm hlt).mono ?_
      rintro e w2 ⟨rfl, hw2⟩
      subst hw2
      clear q0 hkc hm hlt B1'
      go_wp2_with fail
      refine HG.out.mono ?_
      rintro e w3 ⟨rfl, lr', g, cap', zs, B3, G3, hc3, hz3, hm3, hg3, K3⟩
      rw [HK.out.1] at B3 hc3 ⊢
      rw [HW.out] at hg3
      have hne : g ≠ b := by omega
      have s3 := hs1.kp K3 (by simpa using hgb)
      have hkc : ¬ cap' = k := by omega
      have hkn : k + n ≤ cap' := by omega
      have hkn' : (k : Int) + (n : Int) ≤ (cap' : Int) := by omega
      have hm' := hm3
      unfold maxLen at hm'
      have q3 : w3.cell? ⟨b, 0, none⟩ = some (.slice (some ⟨g, 0, none⟩) (k + n) cap') := B3.cell 0
      have K03 := K1.trans K3
      have HC := Lib.hid (And.intro hc3 hz3)
      have hcp := run_copy_cells (P := Tryd.prog) w3 48 48 3 5 g k n (cap' - k) ⟨g0, o, none⟩ n c (Lib.byteCells m) Tryd.underlying48 (by rw [hi0]; exact congrArg some hz1)
        (by rw [HK.out.2.1]; exact (Nat.min_self n).symm) (bs_src s3) (by
          intro j hj
          rw [HK.out.2.1] at hj
          exact (blk_some G3 (by rw [List.length_append, HK.out.2.2.1]; have := HC.out.2; omega)).1) (by
          intro j hj
          exact G3.frozen _) (bytes_one _)
      rw [HK.out.2.1] at hcp
      clear K3 hc3 hz3 hs1 K1 HG
      go_wp2_with fail
      go_ret2
      have he := wr_end (w := w) (row := row) (m := m) B3 G3 (by rw [HK.out.1, HK.out.2.2.2]) (by rw [HK.out.1]; exact HC.out.1) hm3 hne (by have := HC.out.2; have := HK.out.2.2.2; omega) (.inr hg3) (K03.weaken (by simp)) n (by rw [HK.out.2.2.2])
      rw [HK.out.1] at he
      exact he
end Go.Proofs.YtaionnajhgjekaaDoor
