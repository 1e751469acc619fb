/-
  car.NewReader over a bytes.Reader of a file that begins with the pragma of version 2. Conditions: as the contract says.
-/
import Derived.Test.YtakkdpbpoghfgaaGreatDoorNr
namespace Go.Proofs.YtakkdpbpoghfgaaGreatDoor
open Go.RowKit

/-- The cells of a new car.Reader. -/
def rd0 (r : Nat) : List Value := [.int .u64 0, .int .u64 0, .int .u64 0, .int .u64 0, .int .u64 0, .int .u64 0, .iface 59 (.pointer (some ⟨r, 0, none⟩)), .slice none 0 0, .int .u64 0, .int .u64 0, .int .u64 0, .bool false, .int .u64 0, .bool false, .bool false, .bool false, .int .u64 0, .bool false, .bool false, .int .u64 0, .int .u64 0, .nilIface]

/-- What NewReader gives. -/
def NrQ (r : Nat) (x y u v z : Int) (l : List UInt8) (pv er : Value) (w' : World) : Prop :=
  (51 ≤ l.length ∧ SoundH u v z ∧ er = .nilIface ∧ ∃ cr, pv = .pointer (some ⟨cr, 0, none⟩) ∧ Blk w' cr 50 (rdC (.int .u64 x) (.int .u64 y) (.int .u64 u) (.int .u64 v) (.int .u64 z) (.int .u64 2) r)) ∨
  (¬ (51 ≤ l.length ∧ SoundH u v z) ∧ pv = .pointer none ∧ ∃ (t : TypeId) (a : Value), er = .iface t a)

set_option maxRecDepth 100000 in
set_option maxHeartbeats 8000000 in
theorem newRd (r g on n c i g8 b0 b1 b2 b3 b4 b5 b6 b7 : Nat) (x y u v z : Int) (rest l : List UInt8) (aE aU : Addr) (w : World) (hfil : Fil x y u v z l) (hpl : l = 10 :: (pt ++ rest)) (hO : Opts w g8 b0 b1 b2 b3 b4 b5 b6 b7)
    (hr : Rdr w r g on n c i) (hc : Bs w g on l) (hn : n = l.length) (hnc : n ≤ c) (hl : l.length ≤ 2147483647) (hE : Ee w 4 aE) (hU : Ee w 5 aU) :
    Calls Tryz.prog 11 #[.iface 59 (.pointer (some ⟨r, 0, none⟩)), .slice (some ⟨g8, 0, none⟩) 8 8] w fun e w' => ∃ pv er, e = .returned (.tuple #[pv, er]) ∧ NrQ r x y u v z l pv er w' ∧ Below w.heap.size w w' := by
  obtain ⟨cr, hcr⟩ : ∃ cr, w.heap.size = cr := ⟨_, rfl⟩
  obtain ⟨W, hW⟩ : ∃ W, w.alloc (.cells (rd0 r).toArray 50) = W := ⟨_, rfl⟩
  have bW : Below w.heap.size w W := by rw [← hW]; exact Old.alloc (Below.refl _ _) _
  have D : Blk W cr 50 (rd0 r).toArray := by rw [← hW, ← hcr]; exact Blk.new _ _ _
  have hgl : g < w.heap.size := hc.lt (by rw [hpl]; simp)
  have hEl := hE.lt
  have hUl := hU.lt
  have hrl := hr.lt
  have l11 : 11 ≤ l.length := by rw [hpl]; simp [pt]
  have HF := Lib.hid (And.intro (hr.old bW) (And.intro (hc.old bW) (And.intro (hE.old bW) (And.intro (hU.old bW) (And.intro (hO.old bW) (And.intro bW D))))))
  have HP := Lib.hid (And.intro hfil (And.intro hpl (And.intro hn (And.intro hnc hl))))
  have hcle : w.heap.size ≤ cr := by omega
  have hlts : g8 < w.heap.size ∧ b0 < w.heap.size ∧ b1 < w.heap.size ∧ b2 < w.heap.size ∧ b3 < w.heap.size ∧ b4 < w.heap.size ∧ b5 < w.heap.size ∧ b6 < w.heap.size ∧ b7 < w.heap.size :=
    ⟨hO.row.lt, World.block_lt_of_cell? w _ hO.c0, World.block_lt_of_cell? w _ hO.c1, World.block_lt_of_cell? w _ hO.c2, World.block_lt_of_cell? w _ hO.c3, World.block_lt_of_cell? w _ hO.c4, World.block_lt_of_cell? w _ hO.c5, World.block_lt_of_cell? w _ hO.c6, World.block_lt_of_cell? w _ hO.c7⟩
  have HL := Lib.hid hlts
  clear hlts
  have hclt : cr < W.heap.size := D.lt
  unfold rd0 at hW
  clear hr hc hE hU hO bW D hfil hpl hn hnc hl
  go_enter Tryz.func11, Tryz.ntmps11
  go_wp2_with fail
  clear hW hcr
  refine (applyOptions_any g8 b0 b1 b2 b3 b4 b5 b6 b7 W HF.out.2.2.2.2.1).mono ?_
  rintro e w1 ⟨rfl, k1⟩
  have D1 := HF.out.2.2.2.2.2.2.old k1
  have q0 : w1.cell? ⟨cr, 8, none⟩ = some (.int .u64 0) := D1.cell 8
  have f0 := D1.frozen 8
  have q1 : w1.cell? ⟨cr, 9, none⟩ = some (.int .u64 0) := D1.cell 9
  have f1 := D1.frozen 9
  have q2 : w1.cell? ⟨cr, 10, none⟩ = some (.int .u64 0) := D1.cell 10
  have f2 := D1.frozen 10
  have q3 : w1.cell? ⟨cr, 11, none⟩ = some (.bool false) := D1.cell 11
  have f3 := D1.frozen 11
  have q4 : w1.cell? ⟨cr, 12, none⟩ = some (.int .u64 0) := D1.cell 12
  have f4 := D1.frozen 12
  have q5 : w1.cell? ⟨cr, 13, none⟩ = some (.bool false) := D1.cell 13
  have f5 := D1.frozen 13
  have q6 : w1.cell? ⟨cr, 14, none⟩ = some (.bool false) := D1.cell 14
  have f6 := D1.frozen 14
  have q7 : w1.cell? ⟨cr, 15, none⟩ = some (.bool false) := D1.cell 15
  have f7 := D1.frozen 15
  have q8 : w1.cell? ⟨cr, 16, none⟩ = some (.int .u64 0) := D1.cell 16
  have f8 := D1.frozen 16
  have q9 : w1.cell? ⟨cr, 17, none⟩ = some (.bool false) := D1.cell 17
  have f9 := D1.frozen 17
  have q10 : w1.cell? ⟨cr, 18, none⟩ = some (.bool false) := D1.cell 18
  have f10 := D1.frozen 18
  have q11 : w1.cell? ⟨cr, 19, none⟩ = some (.int .u64 0) := D1.cell 19
  have f11 := D1.frozen 19
  have q12 : w1.cell? ⟨cr, 20, none⟩ = some (.int .u64 0) := D1.cell 20
  have f12 := D1.frozen 20
  have HK := Lib.hid (And.intro k1 D1)
  clear k1 D1
  unfold optR
  go_wp2_with fail
  clear q0 f0 q1 f1 q2 f2 q3 f3 q4 f4 q5 f5 q6 f6 q7 f7 q8 f8 q9 f9 q10 f10 q11 f11 q12 f12
  have kX : Kp [cr] w1 (w1.setCells cr 8 optR) := Kp.of_setCells (l := [cr]) (.inl (by simp)) optR 8 w1 (Kp.refl _ _)
  have DX : Blk (w1.setCells cr 8 optR) cr 50 (rdC (.int .u64 0) (.int .u64 0) (.int .u64 0) (.int .u64 0) (.int .u64 0) (.int .u64 0) r) :=
    blk_mid (A := (rd0 r).take 8) (zs := (rd0 r).drop 8) HK.out.2 8 rfl optR (by simp [rd0, optR])
  obtain ⟨X, hX⟩ : ∃ X, w1.setCells cr 8 optR = X := ⟨_, rfl⟩
  change Calls _ _ _ (w1.setCells cr 8 optR) _
  rw [hX] at kX DX ⊢
  clear hX
  have s1 := HK.out.1.size
  have sX := kX.size
  have kWX : Kp [cr] W X := (Kp.of_below HK.out.1 [cr]).trans kX
  have hRX : Rdr X r g on n c i := by obtain ⟨q, R⟩ := HF.out.1; exact ⟨q, R.kp kWX (by simp; omega)⟩
  have hCX := HF.out.2.1.kp kWX (by simp; omega)
  have hEX := HF.out.2.2.1.kp kWX (by simp; omega)
  have hUX := HF.out.2.2.2.1.kp kWX (by simp; omega)
  have hOX : Opts X g8 b0 b1 b2 b3 b4 b5 b6 b7 := by
    have O1 := HF.out.2.2.2.2.1
    have hlts := HL.out
    exact ⟨O1.row.kp kWX (by simp; omega), (kWX.cell (p := ⟨b0, 0, none⟩) (by show b0 < _; omega) (by simp; omega)).trans O1.c0, (kWX.cell (p := ⟨b1, 0, none⟩) (by show b1 < _; omega) (by simp; omega)).trans O1.c1, (kWX.cell (p := ⟨b2, 0, none⟩) (by show b2 < _; omega) (by simp; omega)).trans O1.c2, (kWX.cell (p := ⟨b3, 0, none⟩) (by show b3 < _; omega) (by simp; omega)).trans O1.c3, (kWX.cell (p := ⟨b4, 0, none⟩) (by show b4 < _; omega) (by simp; omega)).trans O1.c4, (kWX.cell (p := ⟨b5, 0, none⟩) (by show b5 < _; omega) (by simp; omega)).trans O1.c5, (kWX.cell (p := ⟨b6, 0, none⟩) (by show b6 < _; omega) (by simp; omega)).trans O1.c6, (kWX.cell (p := ⟨b7, 0, none⟩) (by show b7 < _; omega) (by simp; omega)).trans O1.c7⟩
  have HX := Lib.hid (And.intro hRX (And.intro hCX (And.intro hEX (And.intro hUX (And.intro hOX (And.intro DX kWX))))))
  clear hRX hCX hEX hUX hOX DX kX kWX
  refine (newOrs_any r X).mono ?_
  rintro e w2 ⟨rfl, B2, k2⟩
  obtain ⟨o, ho⟩ : ∃ o, X.heap.size = o := ⟨_, rfl⟩
  rw [ho] at B2
  have hol : o < w2.heap.size := B2.lt
  have HB := Lib.hid (And.intro B2 k2)
  clear B2 k2
  go_wp2_with fail
  have s2 := HB.out.2.size
  refine (readVer o r g on n c i g8 b0 b1 b2 b3 b4 b5 b6 b7 0 rest l aE w2 (HX.out.2.2.2.2.1.old HB.out.2) HP.out.2.1 HB.out.1 (HX.out.1.old HB.out.2) (HX.out.2.1.old HB.out.2) HP.out.2.2.1 HP.out.2.2.2.1 HP.out.2.2.2.2 (by omega) (by omega) (HX.out.2.2.1.old HB.out.2) (by omega) (by omega)).mono ?_
  rintro e w3 ⟨rfl, k3⟩
  have kX3 : Kp [] X w3 := ((Kp.of_below HB.out.2 []).step k3 (by simp; omega))
  have D3 := HX.out.2.2.2.2.2.1.kp kX3 (by simp)
  have p5 : w3.cell? ⟨cr, 5, none⟩ = some (.int .u64 0) := D3.cell 5
  have g5 := D3.frozen 5
  have HY := Lib.hid (And.intro kX3 D3)
  have s3 := kX3.size
  clear k3 kX3 D3 ho
  go_wp2_with fail
  clear p5 g5
  have D4 : Blk (w3.setCell ⟨cr, 5, none⟩ (.int .u64 2)) cr 50 (rdC (.int .u64 0) (.int .u64 0) (.int .u64 0) (.int .u64 0) (.int .u64 0) (.int .u64 2) r) := HY.out.2.set_ 5 _
  have k4 : Kp [cr] W (w3.setCell ⟨cr, 5, none⟩ (.int .u64 2)) := (HX.out.2.2.2.2.2.2.step HY.out.1 (by simp)).setCell (p := ⟨cr, 5, none⟩) (.inl (by simp)) _
  have s4 : (w3.setCell ⟨cr, 5, none⟩ (.int .u64 2)).heap.size = w3.heap.size := by simp
  generalize w3.setCell ⟨cr, 5, none⟩ (.int .u64 2) = w4 at *
  have hR4 : Rdr w4 r g on n c i := by obtain ⟨q, R⟩ := HF.out.1; exact ⟨q, R.kp k4 (by simp; omega)⟩
  have hC4 := HF.out.2.1.kp k4 (by simp; omega)
  have hE4 := HF.out.2.2.1.kp k4 (by simp; omega)
  have hU4 := HF.out.2.2.2.1.kp k4 (by simp; omega)
  refine (readV2 cr r g on n c i x y u v z rest l _ _ _ _ _ _ aE aU w4 HP.out.1 HP.out.2.1 D4 hR4 hC4 HP.out.2.2.1 HP.out.2.2.2.1 HP.out.2.2.2.2 (by omega) (by omega) (by omega) hE4 hU4 (by omega) (by omega)).mono ?_
  rintro e w5 ⟨k5, hx⟩
  have hbw : Below w.heap.size w w5 := below_kp HF.out.2.2.2.2.2.1 (k4.trans k5) HF.out.2.2.2.2.2.1.size (by simp; omega)
  have HW := Lib.hid hbw
  clear hR4 hC4 hE4 hU4 D4 k4 k5 hbw
  rcases hx with ⟨h51, hs, rfl, B⟩ | ⟨hno, t, a, rfl⟩
  · have HG := Lib.hid (And.intro h51 (And.intro hs B))
    clear h51 hs B
    go_wp2_with fail
    go_ret2
    exact ⟨_, _, rfl, .inl ⟨HG.out.1, HG.out.2.1, rfl, cr, rfl, HG.out.2.2⟩, HW.out⟩
  · have HG := Lib.hid hno
    clear hno
    go_wp2_with fail
    go_ret2
    exact ⟨_, _, rfl, .inr ⟨HG.out, rfl, t, a, rfl⟩, HW.out⟩
end Go.Proofs.YtakkdpbpoghfgaaGreatDoor
