/-
  bytes.Reader.ReadAt; internalio.offsetReadSeeker: its Read over that. Conditions: as each contract says.
-/
import Derived.Test.YtakkdpbpoghfgaaGreatDoorRf
namespace Go.Proofs.YtakkdpbpoghfgaaGreatDoor
open Go.RowKit

set_option maxRecDepth 100000 in
set_option maxHeartbeats 2000000 in
theorem readAt_end (r g o n c i k : Nat) (vE b : Value) (w : World) (h : Rdr w r g o n c i) (hk : n ≤ k) (hb : k ≤ 4611686018427387904) (hE : w.cell? ⟨4, 0, none⟩ = some vE) :
    Calls Tryz.prog 117 #[.pointer (some ⟨r, 0, none⟩), b, .int .i64 k] w fun e w' => e = .returned (.tuple #[.int .i64 0, vE]) ∧ w'.heap = w.heap ∧ ∀ B L, Kb B L w w' := by
  obtain ⟨p, h⟩ := h
  have q0 : w.cell? ⟨r, 0, none⟩ = some (.slice (some ⟨g, o, none⟩) n c) := h.cell 0
  have hd0 : decide ((k : Int) < 0) = false := by simp
  have hd1 : decide ((n : Int) ≤ (k : Int)) = true := by simp; omega
  have hd2 : decide (n ≤ k) = true := by simp; omega
  clear h
  go_enter Tryz.func117, Tryz.ntmps117
  go_wp2_with fail
  go_quiet (fail)
  go_wp2_with fail
  go_ret2
  exact ⟨rfl, rfl, fun B L => Kb.refl.drewN _⟩

set_option maxRecDepth 100000 in
set_option maxHeartbeats 2000000 in
theorem readAt_some (r g o n c i x gd od m cd k : Nat) (l : List UInt8) (A zs : List Value) (t : TypeId) (vE : Value) (w : World) (h : Rdr w r g o n c i) (hc : Bs w g o l) (hn : n = l.length) (hx : x < n) (hnc : n ≤ c) (hl : l.length ≤ 2147483647)
    (hd : Blk w gd t (A ++ zs).toArray) (hA : A.length = od) (hz : m ≤ zs.length) (hm : m ≤ 2147483647) (hk : k = min m (n - x)) (hE : w.cell? ⟨4, 0, none⟩ = some vE) (gE : 4 ≠ gd) :
    Calls Tryz.prog 117 #[.pointer (some ⟨r, 0, none⟩), .slice (some ⟨gd, od, none⟩) m cd, .int .i64 x] w fun e w' => e = .returned (.tuple #[.int .i64 k, if k < m then vE else .nilIface]) ∧
      Blk w' gd t ((A ++ Lib.byteCells ((l.drop x).take k)) ++ zs.drop k).toArray ∧ (∀ B L, (gd ∈ L ∨ B ≤ gd) → Kb B L w w') := by
  obtain ⟨i0, hi0, hz0, hz1, hz2⟩ := info_parts info5
  obtain ⟨p, h⟩ := h
  have q0 : w.cell? ⟨r, 0, none⟩ = some (.slice (some ⟨g, o, none⟩) n c) := h.cell 0
  have hd0 : decide ((x : Int) < 0) = false := by simp
  have hd1 : decide ((n : Int) ≤ (x : Int)) = false := by simp; omega
  have hd2 : decide (n ≤ x) = false := by simp; omega
  have hci : ¬ c = x := by omega
  have hin : x ≤ n := by omega
  have hinI : (x : Int) ≤ (n : Int) := by omega
  have hlen : (Lib.byteCells ((l.drop x).take k)).length = k := by rw [Lib.byteCells_length, List.length_take, List.length_drop]; omega
  have hcs : Bs w g (o + x) ((l.drop x).take k) := by
    refine Bs.take ?_ k
    intro j hj
    simp only [List.length_drop] at hj
    rw [List.getElem_drop, show o + x + j = o + (x + j) from by omega]
    exact hc (x + j) (by omega)
  have hcp := run_copy_cells (P := Tryz.prog) w 54 54 3 5 gd od m cd ⟨g, o + x, none⟩ (n - x) (c - x) (Lib.byteCells ((l.drop x).take k)) Tryz.underlying54 (by rw [hi0]; exact congrArg some hz1)
    (by rw [hlen, hk]; exact Nat.min_comm _ _) (bs_src hcs) (by
      intro j hj
      rw [hlen] at hj
      exact (blk_some hd (by rw [List.length_append]; omega)).1) (by
      intro j hj
      exact hd.frozen _) (bytes_one _)
  rw [hlen] at hcp
  have DX := blk_mid hd od hA (Lib.byteCells ((l.drop x).take k)) (by rw [hlen]; omega)
  rw [hlen] at DX
  have kX : ∀ B L, (gd ∈ L ∨ B ≤ gd) → Kb B L w (w.setCells gd od (Lib.byteCells ((l.drop x).take k))) := fun B L h2 => Kb.setCells h2 _ _ _ Kb.refl
  have eX : (w.setCells gd od (Lib.byteCells ((l.drop x).take k))).cell? ⟨4, 0, none⟩ = some vE := ((kX (4 + 1) [gd] (.inl (by simp))).cell (p := ⟨4, 0, none⟩) (Nat.lt_succ_self _) (by simpa using gE)).trans hE
  obtain ⟨X, hX⟩ : ∃ X, w.setCells gd od (Lib.byteCells ((l.drop x).take k)) = X := ⟨_, rfl⟩
  rw [hX] at hcp DX kX eX
  have HX := Lib.hid (And.intro DX (And.intro kX hk))
  clear hX DX kX hk h hc hd hcs hlen hn hl hA hz hE
  by_cases hkm : k < m
  · have hb : decide ((k : Int) < (m : Int)) = true := by simp; omega
    have hb2 : decide (k < m) = true := by simp; omega
    rw [if_pos hkm]
    go_enter Tryz.func117, Tryz.ntmps117
    go_wp2_with fail
    go_ret2
    exact ⟨rfl, HX.out.1, HX.out.2.1⟩
  · have hb : decide ((k : Int) < (m : Int)) = false := by simp; omega
    have hb2 : decide (k < m) = false := by simp; omega
    rw [if_neg hkm]
    go_enter Tryz.func117, Tryz.ntmps117
    go_wp2_with fail
    go_ret2
    exact ⟨rfl, HX.out.1, HX.out.2.1⟩

/-- The four cells of an offsetReadSeeker over the bytes.Reader in block r, with base 0. -/
def orsC (r : Nat) (off : Int) (v : Value) : Array Value := #[.iface 59 (.pointer (some ⟨r, 0, none⟩)), .int .i64 0, .int .i64 off, v]

set_option maxRecDepth 100000 in
set_option maxHeartbeats 2000000 in
theorem orsRead_gen (o r : Nat) (off k : Int) (sl er v v2 : Value) (w : World) (Post : World → Prop) (h : Blk w o 84 (orsC r off v)) (h0 : 0 ≤ off) (h1 : 0 ≤ k) (h2 : off + k ≤ 4611686018427387904)
    (HRA : Calls Tryz.prog 117 #[.pointer (some ⟨r, 0, none⟩), sl, .int .i64 off] w.drew fun e w' => e = .returned (.tuple #[.int .i64 k, er]) ∧ Blk w' o 84 (orsC r off v2) ∧ Post w') :
    Calls Tryz.prog 120 #[.pointer (some ⟨o, 0, none⟩), sl] w fun e w' => e = .returned (.tuple #[.int .i64 k, er]) ∧
      Blk w' o 84 (orsC r (off + k) v2) ∧ ∃ w1, Post w1 ∧ w' = w1.setCell ⟨o, 2, none⟩ (.int .i64 (off + k)) := by
  have hmr : ∀ W, (method 334 59 (.pointer (some ⟨r, 0, none⟩)) "ReadAt").run Tryz.prog W = .ok (117, .pointer (some ⟨r, 0, none⟩)) W := fun _ => by kernel_rfl
  have hna : ∀ W, (nilAhead 334 59 (.pointer (some ⟨r, 0, none⟩)) "ReadAt").run Tryz.prog W = .ok (some false) W := fun _ => by kernel_rfl
  have q0 : w.cell? ⟨o, 0, none⟩ = some (.iface 59 (.pointer (some ⟨r, 0, none⟩))) := h.cell 0
  have q2 : w.cell? ⟨o, 2, none⟩ = some (.int .i64 off) := h.cell 2
  have hw : IntKind.i64.wrap (off + k) = off + k := by rw [IntKind.wrap_i64]; omega
  have hdec : decide (off + k < off) = false := by simp; omega
  have HR := Lib.hid HRA
  clear HRA h
  go_enter Tryz.func120, Tryz.ntmps120
  go_wp2_with fail
  go_region_with (go_at_call 117; refine HR.out.mono ?_; rintro _ w1 ⟨rfl, hB1, hP1⟩; have p2 : w1.cell? ⟨o, 2, none⟩ = some (.int .i64 off) := hB1.cell 2; have f2 := hB1.frozen 2; have HB := Lib.hid (And.intro hB1 hP1); clear hB1 hP1)
  all_goals go_wp2_with fail
  all_goals go_ret2
  all_goals exact ⟨rfl, HB.out.1.set_ 2 _, w1, HB.out.2, rfl⟩
end Go.Proofs.YtakkdpbpoghfgaaGreatDoor
