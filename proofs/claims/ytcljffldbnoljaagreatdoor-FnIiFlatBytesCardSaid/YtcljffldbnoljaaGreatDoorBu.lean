/-
  The walks of (*bytes.Buffer).grow and Write, with the row of the buffer named. Conditions: as each contract says.
-/
import Derived.Test.YtcljffldbnoljaaGreatDoorJRf
import Derived.Lib.SliceRun
import Derived.Deep.DeepFit
namespace Go.Proofs.YtcljffldbnoljaaGreatDoor
open Go.RowKit

/-- Block b is a buffer that has only been written, with the bytes l in it; row: the block where they lie. -/
def BuS (w : World) (b : Nat) (row : Option Nat) (l : List UInt8) : Prop :=
  ∃ (lr : Int) (v : Value), Blk w b 75 #[v, .int .i64 0, .int .i8 lr] ∧ ((row = none ∧ v = .slice none 0 0 ∧ l = []) ∨
    ∃ g cap zs, row = some g ∧ v = .slice (some ⟨g, 0, none⟩) l.length cap ∧ Blk w g 5 (Lib.byteCells l ++ zs).toArray ∧ l.length + zs.length = cap ∧ cap ≤ maxLen ∧ g ≠ b)

theorem BuS.isBuffer {w : World} {b : Nat} {row : Option Nat} {l : List UInt8} (h : BuS w b row l) : LibA.IsBuffer 75 (fun _ => none) 5 0 b 0 (Lib.byteCells l) w := by
  obtain ⟨lr, v, hb, h⟩ := h
  refine LibA.of_whole ⟨Nat.zero_le _, v, lr, hb, ?_, ?_⟩
  · rcases h with ⟨_, rfl, rfl⟩ | ⟨g, cap, zs, _, rfl, hg, hc, hm, _⟩
    · exact World.ownsRow_nil _ _ _ _
    · refine ⟨by simp, .inr ⟨g, cap, _, by rw [Lib.byteCells_length], Nat.zero_le _, hg, by rw [Lib.byteCells_length]; omega, hm, by simp [Lib.byteCells_length]; omega, ?_⟩⟩
      rw [List.toList_toArray, Nat.mul_one, List.take_left' rfl]
  · rcases h with ⟨_, rfl, rfl⟩ | ⟨g, cap, zs, _, rfl, hg, hc, hm, hne⟩
    · simp [Value.ownBlock]
    · simp [Value.ownBlock]; exact hne

theorem BuS.fresh (w : World) : BuS (w.alloc (.cells #[.slice none 0 0, .int .i64 0, .int .i8 0] 75)) w.heap.size none [] :=
  ⟨0, _, Blk.new _ _ _, .inl ⟨rfl, rfl, rfl⟩⟩
theorem BuS.lt {w : World} {b : Nat} {row : Option Nat} {l : List UInt8} (h : BuS w b row l) : b < w.heap.size := by
  obtain ⟨_, _, hb, _⟩ := h
  exact hb.lt
theorem BuS.rowlt {w : World} {b : Nat} {row : Option Nat} {l : List UInt8} (h : BuS w b row l) : ∀ g, row = some g → g < w.heap.size ∧ g ≠ b := by
  obtain ⟨_, _, hb, h⟩ := h
  intro g hg
  rcases h with ⟨h, _⟩ | ⟨g', cap, zs, h, _, hb, _, _, hne⟩
  · rw [h] at hg; cases hg
  · rw [h] at hg; injection hg with hg; subst hg; exact ⟨hb.lt, hne⟩
theorem BuS.kp {w w' : World} {L : List Nat} {b : Nat} {row : Option Nat} {l : List UInt8} (h : BuS w b row l) (k : Kp L w w') (hb : b ∉ L) (hr : ∀ g, row = some g → g ∉ L) : BuS w' b row l := by
  obtain ⟨lr, v, hv, h⟩ := h
  refine ⟨lr, v, hv.kp k hb, ?_⟩
  rcases h with h | ⟨g, cap, zs, h1, h2, h3, h4⟩
  · exact .inl h
  · exact .inr ⟨g, cap, zs, h1, h2, h3.kp k (hr g h1), h4⟩
theorem BuS.old {w w' : World} {b : Nat} {row : Option Nat} {l : List UInt8} (h : BuS w b row l) (k : Below w.heap.size w w') : BuS w' b row l := h.kp (Kp.of_below k []) (by simp) (by simp)
theorem BuS.drewN {w : World} {b : Nat} {row : Option Nat} {l : List UInt8} (h : BuS w b row l) (n : Nat) : BuS (w.drewN n) b row l := h.old (below_drewN (Below.refl _ _) n)

/-- What grow comes to. -/
def GrPost (b n : Nat) (l : List UInt8) (w : World) (e : Ending) (w' : World) : Prop :=
  e = .returned (.int .i64 l.length) ∧ ∃ (lr : Int) (g cap : Nat) (zs : List Value), Blk w' b 75 #[.slice (some ⟨g, 0, none⟩) (l.length + n) cap, .int .i64 0, .int .i8 lr] ∧ Blk w' g 5 (Lib.byteCells l ++ zs).toArray ∧
    l.length + zs.length = cap ∧ n ≤ zs.length ∧ cap ≤ maxLen ∧ w.heap.size ≤ g ∧ Kp [b] w w'

theorem gr_end {w w3 : World} {b g n N cap : Nat} {l : List UInt8} {lr : Int} {v : Value} {zs : List Value} (hsz : w.heap.size ≤ g) (K3 : Kp [b] w w3) (B3 : Blk w3 b 75 #[v, .int .i64 0, .int .i8 lr]) (G3 : Blk w3 g 5 (Lib.byteCells l ++ zs).toArray) (hgb : g ≠ b)
    (hc : l.length + zs.length = cap) (hn : n ≤ zs.length) (hm : cap ≤ maxLen) (hN : N = l.length + n) (x : Value) :
    GrPost b n l w (.returned (.int .i64 l.length)) (((w3.setCell ⟨b, 0, none⟩ x).setCell ⟨b, 1, none⟩ (.int .i64 0)).setCell ⟨b, 0, none⟩ (.slice (some ⟨g, 0, none⟩) N cap)) := by
  subst hN
  exact ⟨rfl, lr, g, cap, zs, ((B3.set_ 0 x).set_ 1 _).set_ 0 _, ((G3.far (p := ⟨b, 0, none⟩) hgb _).far (p := ⟨b, 1, none⟩) hgb _).far (p := ⟨b, 0, none⟩) hgb _, hc, hn, hm, hsz, ((K3.setCell (p := ⟨b, 0, none⟩) (.inl (by simp)) _).setCell (p := ⟨b, 1, none⟩) (.inl (by simp)) _).setCell (p := ⟨b, 0, none⟩) (.inl (by simp)) _⟩

set_option maxRecDepth 100000 in
set_option maxHeartbeats 2000000 in
theorem grow_nil_small (b n : Nat) (lr : Int) (w : World) (h : Blk w b 75 #[.slice none 0 0, .int .i64 0, .int .i8 lr]) (hn : 1 ≤ n) (h64 : n ≤ 64) :
    Calls Tryz.prog 159 #[.pointer (some ⟨b, 0, none⟩), .int .i64 n] w (GrPost b n [] w) := by
  obtain ⟨i0, hi0, hz0, hz1, hz2⟩ := info_parts info5
  have hmk : ∀ W : World, (Instr.makeSlice 47 (.int .i64 n) (.int .i64 64)).run Tryz.prog W = .ok (.slice (some ⟨W.heap.size, 0, none⟩) n 64) (W.alloc (.cells (List.replicate 64 (.int .u8 0)).toArray 5)) := by
    intro W
    have hr := run_make (P := Tryz.prog) W 47 5 i0 (.int .u8 0) Tryz.underlying47 hi0 hz0 .i64 .i64 n 64 (by omega) (by omega) (by rw [hz2]; omega) (by omega)
    have ht0 : madeCells #[Value.int .u8 0] 64 = (List.replicate 64 (Value.int .u8 0)).toArray := by
      rw [← toList_madeCells_one (.int .u8 0) 64]
    rw [← ht0]
    simpa [hz1, Value.cells] using hr
  obtain ⟨zs, hzs⟩ : ∃ zs, List.replicate 64 (Value.int .u8 0) = zs := ⟨_, rfl⟩
  rw [hzs] at hmk
  have hzl : zs.length = 64 := by rw [← hzs]; rfl
  have HZ := Lib.hid hzl
  clear hzs hzl hi0 hz0 hz1 hz2
  have hbu : BuS w b none [] := ⟨lr, _, h, .inl ⟨rfl, rfl, rfl⟩⟩
  have hIB := hbu.isBuffer
  go_enter Tryz.func159, Tryz.ntmps159
  go_wp2_with fail
  refine (Tryz.Buffer_Len_at _ _ _ b 0 _ w hIB).mono ?_
  rintro e w1 ⟨rfl, k, rfl⟩
  have h1 := h.drewN k
  have K1 : Kp [b] w (w.drewN k) := (Kp.refl _ _).drewN k
  have hs1 : w.heap.size = (w.drewN k).heap.size := rfl
  clear hbu hIB h
  generalize w.drewN k = w1 at *
  have q0 : w1.cell? ⟨b, 0, none⟩ = some (.slice none 0 0) := h1.cell 0
  have q1 : w1.cell? ⟨b, 1, none⟩ = some (.int .i64 0) := h1.cell 1
  have f0 := h1.frozen 0
  have f1 := h1.frozen 1
  have HS := Lib.hid hs1
  clear hs1
  go_wp2_with fail
  refine (Tryz.Buffer_tryGrow_none_at b 0 none 0 0 n w1 q0 (Nat.le_refl _) (by unfold maxLen; omega) (by omega)).mono ?_
  rintro e w2 ⟨rfl, hw2⟩
  subst hw2
  have zb := h1.lt
  have heq := fun W => Lib.run_eql_slice_nil (P := Tryz.prog) W 47 5 none 0 0 0 0 Tryz.underlying47
  go_wp2_with fail
  go_ret
  refine ⟨rfl, lr, w2.heap.size, 64, zs, ?_, ?_, ?_, ?_, ?_, ?_, ?_⟩
  · rw [List.length_nil, Nat.zero_add]; exact (h1.set_ 0 _).alloc _
  · have := Blk.new (w2.setCell ⟨b, 0, none⟩ (.slice (some ⟨w2.heap.size, 0, none⟩) n 64)) 5 zs.toArray
    simpa [Lib.byteCells] using this
  · rw [HZ.out]; rfl
  · rw [HZ.out]; exact h64
  · unfold maxLen; omega
  · rw [HS.out]; exact Nat.le_refl _
  · exact (K1.setCell (p := ⟨b, 0, none⟩) (.inl (by simp)) _).alloc _

set_option maxRecDepth 100000 in
set_option maxHeartbeats 2000000 in
theorem grow_nil_big (b n : Nat) (lr : Int) (w : World) (h : Blk w b 75 #[.slice none 0 0, .int .i64 0, .int .i8 lr]) (h64 : 64 < n) (hlim : n ≤ 1000000000) :
    Calls Tryz.prog 159 #[.pointer (some ⟨b, 0, none⟩), .int .i64 n] w (GrPost b n [] w) := by
  have hbu : BuS w b none [] := ⟨lr, _, h, .inl ⟨rfl, rfl, rfl⟩⟩
  have hIB := hbu.isBuffer
  have h64' : decide ((n : Int) ≤ 64) = false := by simp; omega
  go_enter Tryz.func159, Tryz.ntmps159
  go_wp2_with fail
  refine (Tryz.Buffer_Len_at _ _ _ b 0 _ w hIB).mono ?_
  rintro e w1 ⟨rfl, k, rfl⟩
  have h1 := h.drewN k
  have K1 : Kp [b] w (w.drewN k) := (Kp.refl _ _).drewN k
  have hs1 : w.heap.size = (w.drewN k).heap.size := rfl
  clear hbu hIB h
  generalize w.drewN k = w1 at *
  have q0 : w1.cell? ⟨b, 0, none⟩ = some (.slice none 0 0) := h1.cell 0
  have q1 : w1.cell? ⟨b, 1, none⟩ = some (.int .i64 0) := h1.cell 1
  have f0 := h1.frozen 0
  have f1 := h1.frozen 1
  have HS := Lib.hid hs1
  clear hs1
  go_wp2_with fail
  refine (Tryz.Buffer_tryGrow_none_at b 0 none 0 0 n w1 q0 (Nat.le_refl _) (by unfold maxLen; omega) (by omega)).mono ?_
  rintro e w2 ⟨rfl, hw2⟩
  subst hw2
  have zb := h1.lt
  have heq := fun W => Lib.run_eql_slice_nil (P := Tryz.prog) W 47 5 none 0 0 0 0 Tryz.underlying47
  go_wp2_with fail
  have HF := Lib.hid (show ∀ (m : Nat) (W : World), Below (w2.drewN m).heap.size (w2.drewN m) W → Blk W b 75 #[.slice none 0 0, .int .i64 0, .int .i8 lr] ∧ W.cell? ⟨b, 0, none⟩ = some (.slice none 0 0) ∧ W.frozen? ⟨b, 0, none⟩ = false ∧ W.frozen? ⟨b, 1, none⟩ = false ∧ (W.cell? ⟨b, 1, none⟩ = some (.int .i64 0)) ∧ Kp [b] w W from
    fun m W hb => ⟨(h1.drewN m).old hb, ((h1.drewN m).old hb).cell 0, ((h1.drewN m).old hb).frozen 0, ((h1.drewN m).old hb).frozen 1, ((h1.drewN m).old hb).cell 1, (K1.drewN m).trans (Kp.of_below hb _)⟩)
  have hwn : IntKind.i64.wrap (n : Int) = n := by rw [IntKind.wrap_i64]; omega
  go_region_with (go_at_call 161; refine (Tryz.bytes_growSlice_nil n _ (by omega) (by omega)).mono ?_; rintro _ w3 ⟨cap2, cells, rfl, hg3, hc3, hn3, hm3, hb3⟩; obtain ⟨B3, q3, f3, f4, q4, K3⟩ := HF.out 1 w3 hb3)
  all_goals clear HF
  all_goals go_wp2_with fail
  all_goals go_ret
  all_goals exact gr_end (l := []) (n := n) (lr := lr) (zs := cells.toList) (by rw [HS.out]; exact Nat.le_refl _) K3 B3 (by rw [show Lib.byteCells [] = [] from rfl, List.nil_append, Array.toArray_toList]; exact hg3) (by show w2.heap.size ≠ b; omega) (by rw [List.length_nil, Nat.zero_add, Array.length_toList]; exact hc3) (by rw [Array.length_toList]; omega) hm3 (by rw [List.length_nil, Nat.zero_add]) _

set_option maxRecDepth 100000 in
set_option maxHeartbeats 4000000 in
theorem grow_row (b g n cap : Nat) (l : List UInt8) (zs : List Value) (lr : Int) (w : World) (h : Blk w b 75 #[.slice (some ⟨g, 0, none⟩) l.length cap, .int .i64 0, .int .i8 lr]) (hg : Blk w g 5 (Lib.byteCells l ++ zs).toArray)
    (hc : l.length + zs.length = cap) (hm : cap ≤ maxLen) (hgb : g ≠ b) (hn : 1 ≤ n) (hroom : cap - l.length < n) (hlim : l.length + n ≤ 1000000000) :
    Calls Tryz.prog 159 #[.pointer (some ⟨b, 0, none⟩), .int .i64 n] w (GrPost b n l w) := by
  have hbu : BuS w b (some g) l := ⟨lr, _, h, .inr ⟨g, cap, zs, rfl, rfl, hg, hc, hm, hgb⟩⟩
  have hIB := hbu.isBuffer
  have hlb : (Lib.byteCells l).length = l.length := Lib.byteCells_length l
  obtain ⟨m, hml⟩ : ∃ m, l.length = m := ⟨_, rfl⟩
  rw [hml] at h hc hroom hlim hlb
  have hcap : cap < m + n := by omega
  have hmc : m ≤ cap := by omega
  have hsz : (Lib.byteCells l ++ zs).toArray.size = cap := by rw [List.size_toArray, List.length_append, hlb]; omega
  have h1c : ∀ v ∈ (Lib.byteCells l ++ zs).toArray.toList.take m, v.oneCell' = true := by
    rw [List.toList_toArray, List.take_left' hlb]; exact bytes_one _
  have HC := Lib.hid (And.intro hsz (And.intro h1c (And.intro hml (And.intro hlb hc))))
  clear hsz h1c hml
  have hq : decide ((n : Int) ≤ (cap : Int) / 2 - (m : Int)) = false := by simp; omega
  have hq2 : decide ((9223372036854775807 : Int) - (cap : Int) - (n : Int) < (cap : Int)) = false := by simp; omega
  go_enter Tryz.func159, Tryz.ntmps159
  go_wp2_with fail
  refine (Tryz.Buffer_Len_at _ _ _ b 0 _ w hIB).mono ?_
  rintro e w1 ⟨rfl, k, rfl⟩
  rw [HC.out.2.2.2.1]
  have h1 := h.drewN k
  have g1 := hg.drewN k
  have K1 : Kp [b] w (w.drewN k) := (Kp.refl _ _).drewN k
  have hs1 : w.heap.size = (w.drewN k).heap.size := rfl
  clear hbu hIB h hg hlb
  generalize w.drewN k = w1 at *
  have q0 : w1.cell? ⟨b, 0, none⟩ = some (.slice (some ⟨g, 0, none⟩) m cap) := h1.cell 0
  have q1 : w1.cell? ⟨b, 1, none⟩ = some (.int .i64 0) := h1.cell 1
  have f0 := h1.frozen 0
  have f1 := h1.frozen 1
  have HS := Lib.hid hs1
  clear hs1
  have hwn : IntKind.i64.wrap (n : Int) = n := by rw [IntKind.wrap_i64]; omega
  have hpost := (Tryz.Buffer_tryGrow_none_at b 0 (some ⟨g, 0, none⟩) m cap n w1 q0 hmc hm hroom)
  have HP := Lib.hid hpost
  clear hpost
  have zb := h1.lt
  have heq := fun W => Lib.run_eql_slice_nil (P := Tryz.prog) W 47 5 (some ⟨g, 0, none⟩) m cap 0 0 Tryz.underlying47
  have HF := Lib.hid (show ∀ (q : Nat) (W : World), Below (w1.drewN q).heap.size (w1.drewN q) W → Blk W b 75 #[.slice (some ⟨g, 0, none⟩) m cap, .int .i64 0, .int .i8 lr] ∧ W.cell? ⟨b, 0, none⟩ = some (.slice (some ⟨g, 0, none⟩) m cap) ∧ W.frozen? ⟨b, 0, none⟩ = false ∧ W.frozen? ⟨b, 1, none⟩ = false ∧ (W.cell? ⟨b, 1, none⟩ = some (.int .i64 0)) ∧ Kp [b] w W from
    fun q W hb => ⟨(h1.drewN q).old hb, ((h1.drewN q).old hb).cell 0, ((h1.drewN q).old hb).frozen 0, ((h1.drewN q).old hb).frozen 1, ((h1.drewN q).old hb).cell 1, (K1.drewN q).trans (Kp.of_below hb _)⟩)
  by_cases h0 : m = 0
  · subst h0
    go_wp2_with fail
    refine HP.out.mono ?_
    rintro e w2 ⟨rfl, hw2⟩
    subst hw2
    go_wp2_with fail
    go_region_with (go_at_call 161; refine (Tryz.bytes_growSlice_row g 0 cap n (Lib.byteCells l ++ zs).toArray _ ?_ HC.out.1 hmc hn (by omega) (by omega) HC.out.2.1).mono ?_; exact g1; rintro _ w3 ⟨cap2, cells, rfl, hg3, hc3, ht3, hn3, hm3, hb3⟩; obtain ⟨B3, q3, f3, f4, q4, K3⟩ := HF.out 1 w3 hb3)
    all_goals clear HF
    all_goals go_wp2_with fail
    all_goals go_ret
    all_goals have ht4 := ht3
    all_goals rw [List.toList_toArray, List.take_left' HC.out.2.2.2.1] at ht4
    all_goals have hcl : cells = (Lib.byteCells l ++ cells.toList.drop 0).toArray := by rw [← ht4, List.take_append_drop, Array.toArray_toList]
    all_goals have G3 : Blk w3 w2.heap.size 5 (Lib.byteCells l ++ cells.toList.drop 0).toArray := by rw [← hcl]; exact hg3
    all_goals have hE := gr_end (n := n) (N := 0 + n) (cap := cap2) (by rw [HS.out]; exact Nat.le_refl _) K3 B3 G3 (by show w2.heap.size ≠ b; omega) (by rw [HC.out.2.2.1, List.length_drop, Array.length_toList]; omega) (by rw [List.length_drop, Array.length_toList]; omega) hm3 (by rw [HC.out.2.2.1])
    all_goals rw [HC.out.2.2.1] at hE
    all_goals simpa using hE _
  · have h0' : ((m : Int) == 0) = false := by simp; omega
    go_wp2_with fail
    refine HP.out.mono ?_
    rintro e w2 ⟨rfl, hw2⟩
    subst hw2
    go_wp2_with fail
    go_region_with (go_at_call 161; refine (Tryz.bytes_growSlice_row g m cap n (Lib.byteCells l ++ zs).toArray _ ?_ HC.out.1 hmc hn (by omega) (by omega) HC.out.2.1).mono ?_; exact g1; rintro _ w3 ⟨cap2, cells, rfl, hg3, hc3, ht3, hn3, hm3, hb3⟩; obtain ⟨B3, q3, f3, f4, q4, K3⟩ := HF.out 1 w3 hb3)
    all_goals clear HF
    all_goals go_wp2_with fail
    all_goals go_ret
    all_goals have ht4 := ht3
    all_goals rw [List.toList_toArray, List.take_left' HC.out.2.2.2.1] at ht4
    all_goals have hcl : cells = (Lib.byteCells l ++ cells.toList.drop m).toArray := by rw [← ht4, List.take_append_drop, Array.toArray_toList]
    all_goals have G3 : Blk w3 w2.heap.size 5 (Lib.byteCells l ++ cells.toList.drop m).toArray := by rw [← hcl]; exact hg3
    all_goals have hE := gr_end (n := n) (N := m + n) (cap := cap2) (by rw [HS.out]; exact Nat.le_refl _) K3 B3 G3 (by show w2.heap.size ≠ b; omega) (by rw [HC.out.2.2.1, List.length_drop, Array.length_toList]; omega) (by rw [List.length_drop, Array.length_toList]; omega) hm3 (by rw [HC.out.2.2.1])
    all_goals rw [HC.out.2.2.1] at hE
    all_goals simpa using hE _
end Go.Proofs.YtcljffldbnoljaaGreatDoor
