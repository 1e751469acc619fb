/-
  impl.RdHeader with all-zero options, of a file that begins with the pragma of version 2. Conditions: as the contract says.
-/
import Derived.Test.YtakkdpbpoghfgaaGreatDoorNx
namespace Go.Proofs.YtakkdpbpoghfgaaGreatDoor
open Go.RowKit

theorem drew_cells (V : World) (c : Nat) : ∀ i, V.drew.cell? ⟨c, i, none⟩ = V.cell? ⟨c, i, none⟩ := fun _ => rfl
theorem far5 (w : World) (g c i : Nat) (h : g ≠ c) (a0 a1 a2 a3 a4 : Value) : (((((w.setCell ⟨g, 0, none⟩ a0).setCell ⟨g, 1, none⟩ a1).setCell ⟨g, 2, none⟩ a2).setCell ⟨g, 3, none⟩ a3).setCell ⟨g, 4, none⟩ a4).cell? ⟨c, i, none⟩ = w.cell? ⟨c, i, none⟩ :=
  (World.cell?_setCell_far _ _ _ _ h).trans ((World.cell?_setCell_far _ _ _ _ h).trans ((World.cell?_setCell_far _ _ _ _ h).trans ((World.cell?_setCell_far _ _ _ _ h).trans (World.cell?_setCell_far _ _ _ _ h))))

/-- What RdHeader gives. -/
def RhQ (x y u v z : Int) (l : List UInt8) (ver : Int) (hd : Array Value) (ok : Bool) : Prop :=
  (51 ≤ l.length ∧ SoundH u v z ∧ ver = 2 ∧ hd = #[.int .u64 x, .int .u64 y, .int .u64 u, .int .u64 v, .int .u64 z] ∧ ok = true) ∨
  (¬ (51 ≤ l.length ∧ SoundH u v z) ∧ ver = 0 ∧ hd = #[.int .u64 0, .int .u64 0, .int .u64 0, .int .u64 0, .int .u64 0] ∧ ok = false)

set_option maxRecDepth 100000 in
set_option maxHeartbeats 8000000 in
theorem rdHeader (x y u v z : Int) (rest l : List UInt8) (aE aU : Addr) (w : World) (hfil : Fil x y u v z l) (hpl : l = 10 :: (pt ++ rest)) (hl : l.length ≤ 1000000000) (hE : Ee w 4 aE) (hU : Ee w 5 aU) :
    Calls Tryz.prog 5 #[.string ⟨l.toArray⟩, .agg #[.bool false, .bool false, .bool false, .bool false, .bool false, .bool false, .int .u64 0, .int .u64 0, .int .u64 0, .int .u64 0, .int .u64 0, .int .u64 0]] w fun e w' => ∃ ver hd ok, e = .returned (.tuple #[.int .u64 ver, .agg hd, .bool ok]) ∧ RhQ x y u v z l ver hd ok ∧ Below w.heap.size w w' := by
  obtain ⟨d, hd⟩ : ∃ d, w.heap.size = d := ⟨_, rfl⟩
  obtain ⟨W, hW⟩ : ∃ W, (w.alloc (.cells #[.bool false, .bool false, .bool false, .bool false, .bool false, .bool false, .int .u64 0, .int .u64 0, .int .u64 0, .int .u64 0, .int .u64 0, .int .u64 0] 29)).alloc (.cells #[.int .u64 0, .int .u64 0, .int .u64 0, .int .u64 0, .int .u64 0] 24) = W := ⟨_, rfl⟩
  have bW : Below w.heap.size w W := by rw [← hW]; exact Old.alloc (Old.alloc (Below.refl _ _) _) _
  have D : Blk W d 29 #[.bool false, .bool false, .bool false, .bool false, .bool false, .bool false, .int .u64 0, .int .u64 0, .int .u64 0, .int .u64 0, .int .u64 0, .int .u64 0] := by rw [← hW, ← hd]; exact (Blk.new _ _ _).alloc _
  have H : Blk W (d + 1) 24 #[.int .u64 0, .int .u64 0, .int .u64 0, .int .u64 0, .int .u64 0] := by
    rw [← hW, ← hd]
    exact Blk.new' (by simp)
  have q0 : W.cell? ⟨d, 0, none⟩ = some (.bool false) := D.cell 0
  have q1 : W.cell? ⟨d, 1, none⟩ = some (.bool false) := D.cell 1
  have q2 : W.cell? ⟨d, 2, none⟩ = some (.bool false) := D.cell 2
  have q3 : W.cell? ⟨d, 3, none⟩ = some (.bool false) := D.cell 3
  have q4 : W.cell? ⟨d, 4, none⟩ = some (.bool false) := D.cell 4
  have q5 : W.cell? ⟨d, 5, none⟩ = some (.bool false) := D.cell 5
  have q6 : W.cell? ⟨d, 6, none⟩ = some (.int .u64 0) := D.cell 6
  have q7 : W.cell? ⟨d, 7, none⟩ = some (.int .u64 0) := D.cell 7
  have q8 : W.cell? ⟨d, 8, none⟩ = some (.int .u64 0) := D.cell 8
  have q9 : W.cell? ⟨d, 9, none⟩ = some (.int .u64 0) := D.cell 9
  have q10 : W.cell? ⟨d, 10, none⟩ = some (.int .u64 0) := D.cell 10
  have q11 : W.cell? ⟨d, 11, none⟩ = some (.int .u64 0) := D.cell 11
  have hdl := H.lt
  have hdw : w.heap.size ≤ d := by omega
  have HP := Lib.hid (And.intro (irReader x y u v z rest l aE aU W hfil hpl hl (hE.old bW) (hU.old bW)) (And.intro bW H))
  clear hfil hpl hl hE hU bW D H
  go_enter Tryz.func5, Tryz.ntmps5
  go_wp2_with fail
  clear hW hd
  refine HP.out.1.mono ?_
  rintro e V ⟨pv, ok, rfl, Q, bV⟩
  have H1 := HP.out.2.2.old bV
  have bw1 := Old.trans HP.out.2.1 bV
  clear q0 q1 q2 q3 q4 q5 q6 q7 q8 q9 q10 q11
  rcases Q with ⟨h51, hs, rfl, cr, r, rfl, B⟩ | ⟨hno, rfl, rfl⟩
  · have HG := Lib.hid (And.intro h51 (And.intro hs (And.intro H1 bw1)))
    have h0 : V.cell? ⟨d + 1, 0, none⟩ = some (.int .u64 0) := H1.cell 0
    have f0 := H1.frozen 0
    have h1 : V.cell? ⟨d + 1, 1, none⟩ = some (.int .u64 0) := H1.cell 1
    have f1 := H1.frozen 1
    have h2 : V.cell? ⟨d + 1, 2, none⟩ = some (.int .u64 0) := H1.cell 2
    have f2 := H1.frozen 2
    have h3 : V.cell? ⟨d + 1, 3, none⟩ = some (.int .u64 0) := H1.cell 3
    have f3 := H1.frozen 3
    have h4 : V.cell? ⟨d + 1, 4, none⟩ = some (.int .u64 0) := H1.cell 4
    have f4 := H1.frozen 4
    have c0 : V.cell? ⟨cr, 0, none⟩ = some (.int .u64 x) := B.cell 0
    have c1 : V.cell? ⟨cr, 1, none⟩ = some (.int .u64 y) := B.cell 1
    have c2 : V.cell? ⟨cr, 2, none⟩ = some (.int .u64 u) := B.cell 2
    have c3 : V.cell? ⟨cr, 3, none⟩ = some (.int .u64 v) := B.cell 3
    have c4 : V.cell? ⟨cr, 4, none⟩ = some (.int .u64 z) := B.cell 4
    have c5 : V.cell? ⟨cr, 5, none⟩ = some (.int .u64 2) := B.cell 5
    have hdc : d + 1 ≠ cr := by
      intro e
      have B' := B
      rw [← e] at B'
      unfold Blk at B'
      have H' := H1
      unfold Blk at H'
      rw [H'] at B'
      simp [rdC] at B'
    have ncr := B.lt
    have ndl := H1.lt
    clear h51 hs H1 bw1 B bV
    go_wp2_with fail
    go_region_held3 (fun w' => ∀ i, w'.cell? ⟨cr, i, none⟩ = V.cell? ⟨cr, i, none⟩) (first | with_reducible exact drew_cells V cr | with_reducible exact hcr | with_reducible exact (fun i => (far5 v1 (d + 1) cr i hdc _ _ _ _ _).trans (hcr i)))
      (first
        | (go_at_call 10; refine (headOut_any x y u v z _).mono ?_; rintro _ v1 ⟨rfl, b1⟩; have b01 : Below V.heap.size V v1 := ((Below.refl _ _).drew).trans b1; have H2 := HG.out.2.2.1.old b01; have hcr : ∀ i, v1.cell? ⟨cr, i, none⟩ = V.cell? ⟨cr, i, none⟩ := fun i => b01.cell (p := ⟨cr, i, none⟩) ncr; have g0 : v1.cell? ⟨d + 1, 0, none⟩ = some (.int .u64 0) := H2.cell 0; have k0 := H2.frozen 0; have g1 : v1.cell? ⟨d + 1, 1, none⟩ = some (.int .u64 0) := H2.cell 1; have k1 := H2.frozen 1; have g2 : v1.cell? ⟨d + 1, 2, none⟩ = some (.int .u64 0) := H2.cell 2; have k2 := H2.frozen 2; have g3 : v1.cell? ⟨d + 1, 3, none⟩ = some (.int .u64 0) := H2.cell 3; have k3 := H2.frozen 3; have g4 : v1.cell? ⟨d + 1, 4, none⟩ = some (.int .u64 0) := H2.cell 4; have k4 := H2.frozen 4; have HV := Lib.hid (And.intro b01 H2); clear b1 b01 H2))
    go_wp2_with fail
    refine bodyPost_ret (ret_tmp_cell_tmp rfl rfl (HV.out.2.row [.int .u64 x, .int .u64 y, .int .u64 u, .int .u64 v, .int .u64 z] rfl) Tryz.underlying24 (by kernel_rfl)) rfl ?_
    exact ⟨2, _, true, rfl, .inl ⟨HG.out.1, HG.out.2.1, rfl, rfl, rfl⟩, below_setCells (by omega) [.int .u64 x, .int .u64 y, .int .u64 u, .int .u64 v, .int .u64 z] 0 _ (Old.trans HG.out.2.2.2 HV.out.1)⟩
  · have HG := Lib.hid (And.intro hno (And.intro H1 bw1))
    have h0 : V.cell? ⟨d + 1, 0, none⟩ = some (.int .u64 0) := H1.cell 0
    have f0 := H1.frozen 0
    have h1 : V.cell? ⟨d + 1, 1, none⟩ = some (.int .u64 0) := H1.cell 1
    have f1 := H1.frozen 1
    have h2 : V.cell? ⟨d + 1, 2, none⟩ = some (.int .u64 0) := H1.cell 2
    have f2 := H1.frozen 2
    have h3 : V.cell? ⟨d + 1, 3, none⟩ = some (.int .u64 0) := H1.cell 3
    have f3 := H1.frozen 3
    have h4 : V.cell? ⟨d + 1, 4, none⟩ = some (.int .u64 0) := H1.cell 4
    have f4 := H1.frozen 4
    clear hno H1 bw1 bV
    go_wp2_with fail
    refine bodyPost_ret (ret_tmp_cell_tmp rfl rfl (HG.out.2.1.row [.int .u64 0, .int .u64 0, .int .u64 0, .int .u64 0, .int .u64 0] rfl) Tryz.underlying24 (by kernel_rfl)) rfl ?_
    exact ⟨0, _, false, rfl, .inr ⟨HG.out.1, rfl, rfl, rfl⟩, below_setCells (by omega) [.int .u64 0, .int .u64 0, .int .u64 0, .int .u64 0, .int .u64 0] 0 _ HG.out.2.2⟩
end Go.Proofs.YtakkdpbpoghfgaaGreatDoor
