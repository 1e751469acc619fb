/-
  The walks of Cid.Prefix, Cid.Hash, impl.cidOut (of an identifier that is tidy). Conditions: as each contract says.
-/
import Derived.Test.YtdfhfaeeejijcaaDoorCdI
import Derived.StillTailTactics
namespace Go.Proofs.YtdfhfaeeejijcaaDoor
open Go.RowKit

theorem bs_from {w : World} {g o : Nat} {l : List UInt8} (h : Bs w g o l) (k : Nat) : Bs w g (o + k) (l.drop k) := by
  intro j hj
  simp only [List.length_drop] at hj
  rw [List.getElem_drop, show o + k + j = o + (k + j) from by omega]
  exact h (k + j) (by omega)
set_option maxRecDepth 100000 in
set_option maxHeartbeats 2000000 in
theorem cidHash_any (c : CidL) (l : List UInt8) (w : World) (hl : l = c.wr) (hc : c.tidy) (hd : c.digest.length ≤ 4096) (hm : l.length ≤ 1000000) (hp : 0 < l.length)
    (e0 : Er w 7) (e1 : Er w 8) (e2 : Er w 9) :
    Calls Tryd.prog 57 #[.agg #[.string ⟨l.toArray⟩]] w fun e w' => ∃ g o n cc, e = .returned (.slice (some ⟨g, o, none⟩) n cc) ∧ n = (mhWr c.code c.digest).length ∧ n ≤ cc ∧ g < w'.heap.size ∧ Bs w' g o (mhWr c.code c.digest) ∧ Below w.heap.size w w' := by
  have b0 : Below w.heap.size w (w.alloc (.cells #[.string ⟨l.toArray⟩] 58)) := Old.alloc (Below.refl _ _) _
  have BA := Blk.new w 58 #[.string ⟨l.toArray⟩]
  have HL := Lib.hid (And.intro hl hc)
  clear hl hc
  go_enter Tryd.func57, Tryd.ntmps57
  go_wp2_with fail
  generalize w.alloc (.cells #[.string ⟨l.toArray⟩] 58) = W at *
  refine (cidBytes_any l W hp (by omega)).mono ?_
  rintro e w1 ⟨g, cc, rfl, hg1, hg2, hcc, hbs, b1⟩
  have b01 := Old.trans b0 b1
  have BA1 := BA.old b1
  have a0 : w1.cell? ⟨w.heap.size, 0, none⟩ = some (.string ⟨l.toArray⟩) := BA1.cell 0
  clear b0 b1 BA
  go_wp2_with fail
  refine (version_any c l w1 HL.out.1 HL.out.2).mono ?_
  rintro e w2 ⟨rfl, b2⟩
  have b02 := Old.trans b01 b2
  have hbs2 := hbs.old b2
  have hg3 : g < w2.heap.size := Nat.lt_of_lt_of_le hg2 b2.size
  clear b01 b2 hbs BA1 a0
  by_cases h0 : c.version = 0
  · have hv : ((c.version : Int) == 0) = true := by simp [h0]
    have hw : l = mhWr c.code c.digest := by rw [HL.out.1, CidL.wr, if_pos h0]
    have HW := Lib.hid hw
    clear h0 hw
    go_wp2_with fail
    go_ret
    rw [← HW.out]
    exact ⟨g, 0, _, cc, rfl, rfl, hcc, hg3, hbs2, b02⟩
  · have hv : ((c.version : Int) == 0) = false := by simp; omega
    obtain ⟨n2, n3, n4, r1, r2, r3, r4, hlen, hdr, p2, p3, p4⟩ := wr_reads HL.out.2 h0 (by omega)
    rw [← HL.out.1] at r1 r2 hlen hdr
    have HR := Lib.hid (And.intro r1 (And.intro r2 hdr))
    clear r1 r2 r3 r4 hdr h0
    go_wp2_with fail
    refine (fromUvarint_any g 0 cc l w2 (by omega) hbs2 (e0.old b02) (e1.old b02) (e2.old b02)).mono ?_
    rw [HR.out.1]
    rintro e w3 ⟨⟨k, rfl⟩, rfl⟩
    go_wp2_with fail
    have hbs3 := (bs_from hbs2 1).drewN k
    rw [Nat.zero_add] at hbs3
    have hf := fromUvarint_any g 1 (cc - 1) (l.drop 1) (w2.drewN k) (by rw [List.length_drop]; omega) hbs3 (e0.old (below_drewN b02 k)) (e1.old (below_drewN b02 k)) (e2.old (below_drewN b02 k))
    rw [List.length_drop, HR.out.2.1] at hf
    refine hf.mono ?_
    clear hf
    rintro e w3 ⟨⟨k2, rfl⟩, rfl⟩
    go_wp2_with fail
    go_ret
    have hbs4 := bs_from hbs2 (1 + n2)
    rw [HR.out.2.2, Nat.zero_add] at hbs4
    have hln : l.length - (1 + n2) = (mhWr c.code c.digest).length := by rw [← HR.out.2.2, List.length_drop]
    exact ⟨g, 1 + n2, _, _, rfl, hln, by omega, hg3, hbs4.drewN _, below_drewN b02 _⟩

end Go.Proofs.YtdfhfaeeejijcaaDoor
