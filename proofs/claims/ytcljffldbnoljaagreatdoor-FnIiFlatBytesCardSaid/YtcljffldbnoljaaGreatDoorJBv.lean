/-
  The walk of (*bytes.Buffer).Write, with the row of the buffer named. Conditions: as the contract says.
  spec.Widths: the lengths of the digests, each once, in order. Conditions: as each law says.
-/
import Derived.Test.YtcljffldbnoljaaGreatDoorBu
import Derived.Test.YtcljffldbnoljaaGreatDoorJQm
namespace Go.Proofs.YtcljffldbnoljaaGreatDoor
open Go.RowKit

/-- What Write comes to. -/
def WrPost (b : Nat) (row : Option Nat) (l m : List UInt8) (w : World) (e : Ending) (w' : World) : Prop :=
  e = .returned (.tuple #[.int .i64 m.length, .nilIface]) ∧ (∃ row', BuS w' b row' (l ++ m) ∧ (row' = row ∨ ∃ g', row' = some g' ∧ w.heap.size ≤ g')) ∧ Kp (b :: row.toList) w w'

theorem wr_end {w X : World} {b g N cap : Nat} {row : Option Nat} {l m : List UInt8} {lr : Int} {zs : List Value} (B : Blk X b 75 #[.slice (some ⟨g, 0, none⟩) N cap, .int .i64 0, .int .i8 lr]) (G : Blk X g 5 (Lib.byteCells l ++ zs).toArray) (hN : N = l.length + m.length)
    (hc : l.length + zs.length = cap) (hm : cap ≤ maxLen) (hgb : g ≠ b) (hz : m.length ≤ zs.length) (hr : row = some g ∨ w.heap.size ≤ g) (K : Kp (b :: row.toList) w X) (K' : Int) (hK : K' = m.length) :
    WrPost b row l m w (.returned (.tuple #[.int .i64 K', .nilIface])) (X.setCells g l.length (Lib.byteCells m)) := by
  subst hN hK
  have G' := blk_mid G l.length (Lib.byteCells_length l) (Lib.byteCells m) (by rw [Lib.byteCells_length]; exact hz)
  rw [← Lib.byteCells_append, Lib.byteCells_length] at G'
  have hgl : g ∈ b :: row.toList ∨ w.heap.size ≤ g := by
    rcases hr with rfl | h
    · exact .inl (by simp)
    · exact .inr h
  refine ⟨rfl, ⟨some g, ⟨lr, _, B.kp (Kp.of_setCells (l := [g]) (by simp) _ _ _ (Kp.refl _ _)) (by simpa using fun h => hgb h.symm), .inr ⟨g, cap, zs.drop m.length, rfl, by rw [List.length_append], G', by rw [List.length_append, List.length_drop]; omega, hm, hgb⟩⟩, ?_⟩, ?_⟩
  · rcases hr with h | h
    · exact .inl h.symm
    · exact .inr ⟨g, rfl, h⟩
  · exact Kp.of_setCells hgl _ _ _ K

set_option maxRecDepth 100000 in
set_option maxHeartbeats 2000000 in
theorem bufWrite_any (b : Nat) (row : Option Nat) (l m : List UInt8) (g0 o n c : Nat) (w : World) (h : BuS w b row l) (hs : Bs w g0 o m) (hn : n = m.length) (hnc : n ≤ c) (hgb : g0 ≠ b) (hgr : ∀ g, row = some g → g0 ≠ g) (hlim : l.length + m.length ≤ 1000000000) :
    Calls Tryz.prog 157 #[.pointer (some ⟨b, 0, none⟩), .slice (some ⟨g0, o, none⟩) n c] w (WrPost b row l m w) := by
  obtain ⟨i0, hi0, hz0, hz1, hz2⟩ := info_parts info5
  obtain ⟨lr, v, B, hv⟩ := h
  have f2 := B.frozen 2
  have q2 : w.cell? ⟨b, 2, none⟩ = some (.int .i8 lr) := B.cell 2
  have B1 := B.set_ 2 (.int .i8 0)
  have B1' : Blk (w.setCell ⟨b, 2, none⟩ (.int .i8 0)) b 75 #[v, .int .i64 0, .int .i8 0] := B1
  have K1 : Kp [b] w (w.setCell ⟨b, 2, none⟩ (.int .i8 0)) := (Kp.refl _ _).setCell (p := ⟨b, 2, none⟩) (.inl (by simp)) _
  clear B1
  by_cases h0 : n = 0
  · subst h0
    obtain rfl := List.eq_nil_of_length_eq_zero hn.symm
    clear hn
    have hcp := fun W x y k => run_copy_none (P := Tryz.prog) W 47 47 3 5 x (some ⟨g0, o, none⟩) y k 0 c Tryz.underlying47 (by rw [hi0]; exact congrArg some hz1) (Nat.zero_min _)
    clear hi0 hz0 hz1 hz2
    rcases hv with ⟨rfl, rfl, rfl⟩ | ⟨g, cap, zs, rfl, rfl, G, hc, hm, hne⟩
    · go_enter Tryz.func157, Tryz.ntmps157
      go_wp2_with fail
      clear q2 f2 B
      generalize w.setCell ⟨b, 2, none⟩ (.int .i8 0) = W1 at *
      have q0 : W1.cell? ⟨b, 0, none⟩ = some (.slice none 0 0) := B1'.cell 0
      have f0 := B1'.frozen 0
      refine (Tryz.Buffer_tryGrow_room_at b 0 none 0 0 0 W1 q0 f0 (Nat.le_refl _) (by unfold maxLen; omega) (Nat.le_refl _)).mono ?_
      rintro e w2 ⟨rfl, hw2⟩
      have B2 := B1'.set_ 0 (.slice none (0 + 0) 0)
      have K2 := K1.setCell (p := ⟨b, 0, none⟩) (.inl (by simp)) (.slice none (0 + 0) 0)
      rw [← hw2] at B2 K2
      have q20 : w2.cell? ⟨b, 0, none⟩ = some (.slice none 0 0) := B2.cell 0
      clear hw2
      go_wp2_with fail
      go_ret2
      exact ⟨rfl, ⟨none, ⟨0, _, B2, .inl ⟨rfl, rfl, rfl⟩⟩, .inl rfl⟩, by simpa using K2⟩
    · obtain ⟨k, hk⟩ : ∃ k, l.length = k := ⟨_, rfl⟩
      rw [hk] at B1' hc
      have hkc : k ≤ cap := by omega
      have hkc' : (k : Int) ≤ (cap : Int) := by omega
      have hm' := hm
      unfold maxLen at hm'
      have HK := Lib.hid (And.intro hk hc)
      clear hk
      go_enter Tryz.func157, Tryz.ntmps157
      go_wp2_with fail
      clear q2 f2 B
      have G1 := G.far (p := ⟨b, 2, none⟩) hne (.int .i8 0)
      clear G
      generalize w.setCell ⟨b, 2, none⟩ (.int .i8 0) = W1 at *
      have q0 : W1.cell? ⟨b, 0, none⟩ = some (.slice (some ⟨g, 0, none⟩) k cap) := B1'.cell 0
      have f0 := B1'.frozen 0
      refine (Tryz.Buffer_tryGrow_room_at b 0 (some ⟨g, 0, none⟩) k cap 0 W1 q0 f0 hkc hm (Nat.zero_le _)).mono ?_
      rintro e w2 ⟨rfl, hw2⟩
      have B2 := B1'.set_ 0 (.slice (some ⟨g, 0, none⟩) (k + 0) cap)
      have G2 := G1.far (p := ⟨b, 0, none⟩) hne (.slice (some ⟨g, 0, none⟩) (k + 0) cap)
      have K2 := K1.setCell (p := ⟨b, 0, none⟩) (.inl (by simp)) (.slice (some ⟨g, 0, none⟩) (k + 0) cap)
      rw [← hw2] at B2 K2 G2
      have q20 : w2.cell? ⟨b, 0, none⟩ = some (.slice (some ⟨g, 0, none⟩) k cap) := B2.cell 0
      clear hw2
      by_cases hkk : cap = k
      all_goals
        go_wp2_with fail
        go_ret2
        refine ⟨rfl, ⟨some g, ⟨0, _, B2, .inr ⟨g, cap, zs, rfl, ?_, ?_, ?_, hm, hne⟩⟩, .inl rfl⟩, ?_⟩
        · rw [List.append_nil, HK.out.1]; rfl
        · rw [List.append_nil]; exact G2
        · rw [List.append_nil, HK.out.1]; exact HK.out.2
        · exact K2.weaken (by simp)
  · obtain ⟨k, hk⟩ : ∃ k, l.length = k := ⟨_, rfl⟩
    have hn1 : 1 ≤ n := by omega
    have hlim' : k + n ≤ 1000000000 := by omega
    have hlm : (Lib.byteCells m).length = n := by rw [Lib.byteCells_length, hn]
    have hlk : (Lib.byteCells l).length = k := by rw [Lib.byteCells_length, hk]
    have hs1 : Bs (w.setCell ⟨b, 2, none⟩ (.int .i8 0)) g0 o m := hs.far (p := ⟨b, 2, none⟩) hgb _
    have hroom : (∃ g cap zs, row = some g ∧ v = .slice (some ⟨g, 0, none⟩) k cap ∧ Blk w g 5 (Lib.byteCells l ++ zs).toArray ∧ k + zs.length = cap ∧ cap ≤ maxLen ∧ g ≠ b ∧ n ≤ zs.length) ∨
        (∃ ao cap, v = .slice ao k cap ∧ k ≤ cap ∧ cap ≤ maxLen ∧ cap - k < n ∧ ∀ W, Blk W b 75 #[v, .int .i64 0, .int .i8 0] → (∀ g, row = some g → W.heap[g]? = w.heap[g]?) → Calls Tryz.prog 159 #[.pointer (some ⟨b, 0, none⟩), .int .i64 n] W (GrPost b n l W)) := by
      rcases hv with ⟨rfl, rfl, rfl⟩ | ⟨g, cap, zs, rfl, rfl, G, hc, hm, hne⟩
      · right
        simp only [List.length_nil] at hk
        subst hk
        refine ⟨none, 0, rfl, Nat.le_refl _, by unfold maxLen; omega, by omega, fun W hW _ => ?_⟩
        by_cases h64 : n ≤ 64
        · exact grow_nil_small b n 0 W hW hn1 h64
        · exact grow_nil_big b n 0 W hW (by omega) (by omega)
      · by_cases hz : n ≤ zs.length
        · left; exact ⟨g, cap, zs, rfl, by rw [hk], G, by omega, hm, hne, hz⟩
        · right
          refine ⟨some ⟨g, 0, none⟩, cap, by rw [hk], by omega, hm, by omega, fun W hW hg => ?_⟩
          exact grow_row b g n cap l zs 0 W hW ((hg g rfl).trans G) hc hm hne hn1 (by omega) (by omega)
    have hrb : ∀ g, row = some g → g ≠ b := by
      rcases hv with ⟨rfl, _⟩ | ⟨g, cap, zs, rfl, rfl, G, hc, hm, hne⟩
      · intro g hg; cases hg
      · intro g' hg'; injection hg' with e; rw [← e]; exact hne
    have HRB := Lib.hid hrb
    have zb := B.lt
    have HK := Lib.hid (And.intro hk (And.intro hlm (And.intro hlk hn)))
    clear hk hlm hlk hn hv hrb
    rcases hroom with ⟨g, cap, zs, rfl, rfl, G, hc, hm, hne, hz⟩ | ⟨ao, cap, rfl, hkc, hm, hlt, hgr⟩
    · have hkn : k + n ≤ cap := by omega
      have hkn' : (k : Int) + (n : Int) ≤ (cap : Int) := by omega
      have hkc : ¬ cap = k := by omega
      have hm' := hm
      unfold maxLen at hm'
      have G1 := G.far (p := ⟨b, 2, none⟩) hne (.int .i8 0)
      have HC := Lib.hid (And.intro hc hz)
      clear hc G
      go_enter Tryz.func157, Tryz.ntmps157
      go_wp2_with fail
      clear q2 f2 B hs
      generalize w.setCell ⟨b, 2, none⟩ (.int .i8 0) = W1 at *
      have q0 : W1.cell? ⟨b, 0, none⟩ = some (.slice (some ⟨g, 0, none⟩) k cap) := B1'.cell 0
      have f0 := B1'.frozen 0
      refine (Tryz.Buffer_tryGrow_room_at b 0 (some ⟨g, 0, none⟩) k cap n W1 q0 f0 (by omega) hm (by omega)).mono ?_
      rintro e w2 ⟨rfl, hw2⟩
      have B2 := B1'.set_ 0 (.slice (some ⟨g, 0, none⟩) (k + n) cap)
      have G2 := G1.far (p := ⟨b, 0, none⟩) hne (.slice (some ⟨g, 0, none⟩) (k + n) cap)
      have K2 := K1.setCell (p := ⟨b, 0, none⟩) (.inl (by simp)) (.slice (some ⟨g, 0, none⟩) (k + n) cap)
      have s2 := hs1.far (p := ⟨b, 0, none⟩) hgb (.slice (some ⟨g, 0, none⟩) (k + n) cap)
      rw [← hw2] at B2 K2 G2 s2
      have q20 : w2.cell? ⟨b, 0, none⟩ = some (.slice (some ⟨g, 0, none⟩) (k + n) cap) := B2.cell 0
      clear hw2 q0 f0 K1 B1' G1 hs1
      have hcp := run_copy_cells (P := Tryz.prog) w2 47 47 3 5 g k n (cap - k) ⟨g0, o, none⟩ n c (Lib.byteCells m) Tryz.underlying47 (by rw [hi0]; exact congrArg some hz1)
        (by rw [HK.out.2.1]; exact (Nat.min_self n).symm) (bs_src s2) (by
          intro j hj
          rw [HK.out.2.1] at hj
          exact (blk_some G2 (by rw [List.length_append, HK.out.2.2.1]; have := HC.out.2; omega)).1) (by
          intro j hj
          exact G2.frozen _) (bytes_one _)
      rw [HK.out.2.1] at hcp
      go_wp2_with fail
      go_ret2
      have he := wr_end (w := w) (row := some g) (m := m) B2 G2 (by rw [HK.out.1, HK.out.2.2.2]) (by rw [HK.out.1]; exact HC.out.1) hm hne (by have := HC.out.2; have := HK.out.2.2.2; omega) (.inl rfl) (K2.weaken (by simp)) n (by rw [HK.out.2.2.2])
      rw [HK.out.1] at he
      exact he
    · go_enter Tryz.func157, Tryz.ntmps157
      go_wp2_with fail
      clear q2 f2 B hs
      have hgr1 := hgr _ B1' (fun g hg => Below.heap_setCell w ⟨b, 2, none⟩ _ g (HRB.out g hg))
      have HG := Lib.hid hgr1
      have hw1 : (w.setCell ⟨b, 2, none⟩ (.int .i8 0)).heap.size = w.heap.size := by simp [World.setCell]
      have HW := Lib.hid hw1
      clear hgr hgr1 hw1
      generalize w.setCell ⟨b, 2, none⟩ (.int .i8 0) = W1 at *
      have q0 : W1.cell? ⟨b, 0, none⟩ = some (.slice ao k cap) := B1'.cell 0
      refine (Tryz.Buffer_tryGrow_none_at b 0 ao k cap n W1 q0 hkc hm hlt).mono ?_
      rintro e w2 ⟨rfl, hw2⟩
      subst hw2
      clear q0 hkc hm hlt B1'
      go_wp2_with fail
      refine HG.out.mono ?_
      rintro e w3 ⟨rfl, lr', g, cap', zs, B3, G3, hc3, hz3, hm3, hg3, K3⟩
      rw [HK.out.1] at B3 hc3 ⊢
      rw [HW.out] at hg3
      have hne : g ≠ b := by omega
      have s3 := hs1.kp K3 (by simpa using hgb)
      have hkc : ¬ cap' = k := by omega
      have hkn : k + n ≤ cap' := by omega
      have hkn' : (k : Int) + (n : Int) ≤ (cap' : Int) := by omega
      have hm' := hm3
      unfold maxLen at hm'
      have q3 : w3.cell? ⟨b, 0, none⟩ = some (.slice (some ⟨g, 0, none⟩) (k + n) cap') := B3.cell 0
      have K03 := K1.trans K3
      have HC := Lib.hid (And.intro hc3 hz3)
      have hcp := run_copy_cells (P := Tryz.prog) w3 47 47 3 5 g k n (cap' - k) ⟨g0, o, none⟩ n c (Lib.byteCells m) Tryz.underlying47 (by rw [hi0]; exact congrArg some hz1)
        (by rw [HK.out.2.1]; exact (Nat.min_self n).symm) (bs_src s3) (by
          intro j hj
          rw [HK.out.2.1] at hj
          exact (blk_some G3 (by rw [List.length_append, HK.out.2.2.1]; have := HC.out.2; omega)).1) (by
          intro j hj
          exact G3.frozen _) (bytes_one _)
      rw [HK.out.2.1] at hcp
      clear K3 hc3 hz3 hs1 K1 HG
      go_wp2_with fail
      go_ret2
      have he := wr_end (w := w) (row := row) (m := m) B3 G3 (by rw [HK.out.1, HK.out.2.2.2]) (by rw [HK.out.1]; exact HC.out.1) hm3 hne (by have := HC.out.2; have := HK.out.2.2.2; omega) (.inr hg3) (K03.weaken (by simp)) n (by rw [HK.out.2.2.2])
      rw [HK.out.1] at he
      exact he
end Go.Proofs.YtcljffldbnoljaaGreatDoor

namespace Go.Proofs.YtcljffldbnoljaaGreatDoor
open Go.RowKit Go.Sort

/-- A set of numbers as a map to true. -/
def setF (l : List Int) : Int → Option Value := fun x => if x ∈ l then some (.bool true) else none
theorem setF_nil : setF [] = fun _ => none := by funext x; simp [setF]
theorem setF_look (l : List Int) (y : Int) : (setF l y).getD (.bool false) = .bool (decide (y ∈ l)) := by
  unfold setF
  by_cases h : y ∈ l <;> simp [h]
theorem setF_put (l : List Int) (y : Int) : (fun x => if x = y then some (.bool true) else setF l x) = setF (l ++ [y]) := by
  funext x
  unfold setF
  by_cases h : x = y
  · simp [h]
  · by_cases h2 : x ∈ l <;> simp [h, h2]
set_option maxRecDepth 100000 in
theorem boolZ (w : World) : (zeroValue 4).run Tryz.prog w = .ok (.bool false) w := by kernel_rfl

/-- The keys of the first i entries, each once. -/
def KeysOf (key : EntL → Int) (L : List EntL) (i : Nat) (l : List Int) : Prop := l.Nodup ∧ ∀ x, x ∈ l ↔ ∃ y ∈ L.take i, key y = x
theorem keysOf_nil (key : EntL → Int) (L : List EntL) : KeysOf key L 0 [] := ⟨List.nodup_nil, fun x => by simp⟩
theorem keysOf_old {key : EntL → Int} {L : List EntL} {i : Nat} {l : List Int} {x : EntL} {y : Int} (h : KeysOf key L i l) (hi : i < L.length) (hx : L[i] = x) (hy : key x = y) (hm : y ∈ l) : KeysOf key L (i + 1) l := by
  refine ⟨h.1, fun z => ?_⟩
  rw [h.2 z, List.take_succ_eq_append_getElem hi, hx]
  constructor
  · rintro ⟨u, hu, e⟩; exact ⟨u, by simp [hu], e⟩
  · rintro ⟨u, hu, e⟩
    rcases List.mem_append.1 hu with h1 | h1
    · exact ⟨u, h1, e⟩
    · rw [List.mem_singleton.1 h1, hy] at e
      rw [← e]
      exact (h.2 y).1 hm
theorem keysOf_new {key : EntL → Int} {L : List EntL} {i : Nat} {l : List Int} {x : EntL} {y : Int} (h : KeysOf key L i l) (hi : i < L.length) (hx : L[i] = x) (hy : key x = y) (hm : ¬ y ∈ l) : KeysOf key L (i + 1) (l ++ [y]) := by
  refine ⟨?_, fun z => ?_⟩
  · rw [List.nodup_append]
    refine ⟨h.1, by simp, fun a ha b hb => ?_⟩
    rw [List.mem_singleton.1 hb]
    rintro rfl
    exact hm ha
  · rw [List.mem_append, h.2 z, List.take_succ_eq_append_getElem hi, hx]
    constructor
    · rintro (⟨u, hu, e⟩ | h1)
      · exact ⟨u, by simp [hu], e⟩
      · exact ⟨x, by simp, by rw [hy, List.mem_singleton.1 h1]⟩
    · rintro ⟨u, hu, e⟩
      rcases List.mem_append.1 hu with h1 | h1
      · exact .inl ⟨u, h1, e⟩
      · right
        rw [List.mem_singleton.1 h1, hy] at e
        simp [e]
/-- The keys of all entries, each once, in order. -/
def KeysS (key : EntL → Int) (L : List EntL) (l : List Int) : Prop := l.Pairwise (· < ·) ∧ ∀ x, x ∈ l ↔ ∃ y ∈ L, key y = x
theorem keysOf_sorted {key : EntL → Int} {L : List EntL} {l l' : List Int} (h : KeysOf key L L.length l) (hp : l'.Perm l) (hs : l'.Pairwise (· ≤ ·)) : KeysS key L l' := by
  have hn : l'.Nodup := hp.nodup_iff.2 h.1
  refine ⟨(hs.and hn).imp (by rintro a b ⟨h1, h2⟩; omega), fun x => ?_⟩
  rw [hp.mem_iff, h.2 x, List.take_length]
/-- What it answers: the keys. -/
def NsPost (K : IntKind) (w : World) (key : EntL → Int) (L : List EntL) (e : Ending) (w' : World) : Prop := (∃ v' l, e = .returned v' ∧ OwnN K w' v' l ∧ KeysS key L l ∧ l.length ≤ L.length ∧ ∀ i ∈ v'.ownBlock.toList, w.heap.size ≤ i) ∧ Below w.heap.size w w'

set_option maxRecDepth 100000 in
set_option maxHeartbeats 4000000 in
theorem widths_eq (v : Value) (L : List EntL) (w : World) (h : EnS w v L) (hG : ∀ x ∈ L, EnG x) (hn : L.length ≤ 1000) : Calls Tryz.prog 45 #[v] w (NsPost .i64 w (fun x => (x.c.digest.length : Int)) L) := by
  obtain ⟨_, b, off, c, rfl, hF⟩ := h
  obtain ⟨n, hnl⟩ : ∃ n, L.length = n := ⟨_, rfl⟩
  rw [hnl] at hn ⊢
  have HG := Lib.hid (And.intro hG hnl)
  clear hG hnl
  have hmm := @run_makeMap Tryz.prog
  obtain ⟨w1, hw1⟩ : ∃ w1, w.alloc (.map #[] 0) = w1 := ⟨_, rfl⟩
  obtain ⟨m, hm⟩ : ∃ m, w.heap.size = m := ⟨_, rfl⟩
  have b1 : Below w.heap.size w w1 := by rw [← hw1]; exact Old.alloc (Below.refl _ _) _
  have hS : MapV 3 .i64 w1 m 0 (fun _ => none) := by rw [← hw1, ← hm]; exact mapV_made _ _ _
  have hs1 : w1.heap.size = m + 1 := by rw [← hw1, ← hm]; simp
  replace hF := Lib.hid (And.intro hF (And.intro b1 (And.intro hS (And.intro hs1 hm))))
  clear b1 hS hs1
  go_enter Tryz.func45, Tryz.ntmps45
  go_wp2_with fail
  clear hw1 hm
  go_loopw [3, 11] (fun v3 v11 wr => ∃ (i : Nat) (l : List Int), i ≤ n ∧ v11 = .int .i64 i ∧ l.length ≤ i ∧ OwnN .i64 wr v3 l ∧ MapV 3 .i64 wr m i (setF l) ∧ Kp [m] w1 wr ∧ (∀ j ∈ v3.ownBlock.toList, m < j) ∧ Hid (KeysOf (fun x => (x.c.digest.length : Int)) L i l)) (fun v3 v11 _ => n - (intOf v11).toNat)
  case atStart => exact ⟨0, [], Nat.zero_le _, rfl, Nat.le_refl _, ownN_nil _ _, by rw [setF_nil]; exact hF.out.2.2.1, Kp.refl _ _, by simp [Value.ownBlock], Lib.hid (keysOf_nil _ _)⟩
  case round =>
    obtain ⟨i, l, hi, rfl, hl, hO, hS, hK, hj, hQ⟩ := hrel
    have hbw : Below w.heap.size w wr := ((Kp.of_below hF.out.2.1 []).step hK (by intro j hj; simp at hj; exact .inr (by have := hF.out.2.2.2.2; omega))).below
    by_cases hik : i < n
    · have hdd : decide ((i : Int) < (n : Int)) = true := by rw [decide_eq_true_eq]; omega
      have hiL : i < L.length := by rw [HG.out.2]; exact hik
      obtain ⟨x, hxL⟩ : ∃ x, L[i] = x := ⟨_, rfl⟩
      have hEr := (Ens.old hF.out.1 hbw) i hiL
      rw [hxL] at hEr
      obtain ⟨x0, x1, x2, x3, x4⟩ := hEr
      have hx : EnG x := HG.out.1 x (by rw [← hxL]; exact List.getElem_mem hiL)
      have hgl := World.block_lt_of_cell? wr _ x0
      obtain ⟨W1, hW1⟩ : ∃ W1, wr.alloc (.cells (enC x).toArray 33) = W1 := ⟨_, rfl⟩
      obtain ⟨dd, hdd'⟩ : ∃ dd, wr.heap.size = dd := ⟨_, rfl⟩
      have N1 : Blk W1 dd 33 (enC x).toArray := by rw [← hW1, ← hdd']; exact Blk.new _ _ _
      have b1 : Below wr.heap.size wr W1 := by rw [← hW1]; exact Old.alloc (Below.refl _ _) _
      have e3 : W1.cell? ⟨dd, 3, none⟩ = some (.string ⟨x.c.digest.toArray⟩) := N1.cell 3
      have hwf : (Lit.int .i64 (x.c.digest.length : Int)).wf = true := by have := hx.1; exact wf_i64 (by omega)
      have S1 := hS.old b1
      obtain ⟨y, hy⟩ : ∃ y : Int, (x.c.digest.length : Int) = y := ⟨_, rfl⟩
      obtain ⟨bq, hbq⟩ : ∃ bq, decide (y ∈ l) = bq := ⟨_, rfl⟩
      have hlk := mapV_look S1 Tryz.underlying3 Tryz.underlying140 (boolZ _) hwf
      obtain ⟨W2, hup, S2, K2⟩ := mapV_put S1 Tryz.underlying3 Tryz.underlying140 (by omega) hwf (.bool true)
      rw [hy, setF_look, hbq] at hlk
      rw [hy] at hup S2
      have HY := Lib.hid (And.intro hbq (And.intro hy (And.intro hxL hQ)))
      have hiI : (i : Int) < (n : Int) := by omega
      have hW1' : wr.alloc (.cells #[.int .u64 (x.c.version : Nat), .int .u64 (x.c.codec : Nat), .int .u64 (x.c.code : Nat), .string ⟨x.c.digest.toArray⟩, .int .u64 (x.off : Nat)] 33) = W1 := hW1
      have HX := Lib.hid (And.intro (RowV.old hO b1) (And.intro S1 (And.intro (hK.old b1) (And.intro hj (And.intro S2 K2)))))
      clear hO hx hS hK hj S1 S2 K2 hwf hW1 hbw N1 hbq hxL hQ
      have HB := Lib.hid b1
      clear b1
      cases bq with
      | true =>
        go_wp2_with fail
        exact ⟨⟨i + 1, l, by omega, by go_num, by omega, HX.out.1, HX.out.2.1.mono (by omega), HX.out.2.2.1, HX.out.2.2.2.1, Lib.hid (keysOf_old HY.out.2.2.2.out (by rw [HG.out.2]; exact hik) HY.out.2.2.1 HY.out.2.1 (by simpa using HY.out.1))⟩, by simp [intOf]; omega⟩
      | false =>
        have hO2 : OwnN .i64 W2 u3 l := RowV.kp HX.out.1 HX.out.2.2.2.2.2 (by intro j hj h; have := HX.out.2.2.2.1 j hj; simp at h; omega)
        go_wp2_with (at_builtin; go_must (refine wpList_int1 _ rfl _ _ rfl rfl u3 l rfl _ _ rfl rfl hO2 (by omega) ?_); intro v' w' hO' hT'; replace hO' := Lib.hid (And.intro hO' hT'); clear hT')
        go_roundw
        case rel =>
          have hms : m < W2.heap.size := Nat.lt_of_lt_of_le (by have := hF.out.2.2.2.1; omega) (HX.out.2.2.1.trans HX.out.2.2.2.2.2).size
          have hnm : ∀ j ∈ u3.ownBlock.toList, j ≠ m := fun j hj => by have := HX.out.2.2.2.1 j hj; omega
          refine ⟨i + 1, l ++ [y], by omega, by go_num, by simp; omega, hO'.out.1, by rw [← setF_put]; exact HX.out.2.2.2.2.1.kp hO'.out.2.1 (fun h => hnm m h rfl), (HX.out.2.2.1.trans HX.out.2.2.2.2.2).step hO'.out.2.1 (fun j hj => .inr (by have := HX.out.2.2.2.1 j hj; have := hF.out.2.2.2.1; omega)), fun j hj => ?_, Lib.hid (keysOf_new HY.out.2.2.2.out (by rw [HG.out.2]; exact hik) HY.out.2.2.1 HY.out.2.1 (by simpa using HY.out.1))⟩
          rcases hO'.out.2.2 j hj with h | h
          · exact HX.out.2.2.2.1 j h
          · omega
        case measure => simp [intOf]; omega
    · have hdd : decide ((i : Int) < (n : Int)) = false := by rw [decide_eq_false_iff_not]; omega
      have hik' : i = n := by omega
      subst hik'
      have hso := sortInts_eq u3 l wr hO (by omega)
      have HQ := Lib.hid (And.intro hQ hl)
      have HX := Lib.hid (And.intro hbw (And.intro hso (And.intro hj hF)))
      clear hO hS hK hj hF hbw hso hQ
      go_wp2_with (go_at_call 60; refine HX.out.2.1.mono ?_; rintro _ w2 ⟨rfl, l', hl', hO', hK'⟩; replace hO' := Lib.hid (And.intro hl' (And.intro hO' hK')); clear hl' hK')
      have hq := HQ.out.1.out
      rw [← HG.out.2] at hq
      refine bodyPost_ret (v := u3) (by simp [results, Tryz.results45, go_sem]) rfl ⟨⟨u3, l', rfl, hO'.out.2.1, keysOf_sorted hq hO'.out.1.1 hO'.out.1.2, by rw [hO'.out.1.1.length_eq, HG.out.2]; exact HQ.out.2, fun j hj => by have := HX.out.2.2.1 j hj; have := HX.out.2.2.2.out.2.2.2.2; omega⟩, ?_⟩
      exact ((Kp.of_below HX.out.1 []).step hO'.out.2.2 (fun j hj => .inr (by have := HX.out.2.2.1 j hj; have := HX.out.2.2.2.out.2.2.2.2; omega))).below
end Go.Proofs.YtcljffldbnoljaaGreatDoor
