/-
  impl.reader and impl.RdHeader with all-zero options, of a file that begins with the pragma of version 2. Conditions: as each contract says.
-/
import Derived.Test.YtakkdpbpoghfgaaGreatDoorNw
namespace Go.Proofs.YtakkdpbpoghfgaaGreatDoor
open Go.RowKit

theorem bsIn (l : List UInt8) (W : World) {v1 : World} (b : Below (Lib.bytesWorld W 5 ⟨l.toArray⟩).heap.size (Lib.bytesWorld W 5 ⟨l.toArray⟩) v1) : Bs v1 W.heap.size 0 l := (bw_bs W 5 ⟨l.toArray⟩).old b
theorem bIn (l : List UInt8) {W v1 v2 : World} (b : Below (Lib.bytesWorld W.drew 5 ⟨l.toArray⟩).heap.size (Lib.bytesWorld W.drew 5 ⟨l.toArray⟩) v1) (b2 : Below v1.heap.size v1 v2) : Below W.heap.size W v2 :=
  Old.trans (Old.trans (((Below.refl W.heap.size W).drew).trans (bw_below W.drew 5 ⟨l.toArray⟩)) b) b2

/-- What impl.reader gives. -/
def IrQ (x y u v z : Int) (l : List UInt8) (pv : Value) (ok : Bool) (w' : World) : Prop :=
  (51 ≤ l.length ∧ SoundH u v z ∧ ok = true ∧ ∃ cr r, pv = .pointer (some ⟨cr, 0, none⟩) ∧ Blk w' cr 50 (rdC (.int .u64 x) (.int .u64 y) (.int .u64 u) (.int .u64 v) (.int .u64 z) (.int .u64 2) r)) ∨
  (¬ (51 ≤ l.length ∧ SoundH u v z) ∧ pv = .pointer none ∧ ok = false)

set_option maxRecDepth 100000 in
set_option maxHeartbeats 8000000 in
theorem irReader (x y u v z : Int) (rest l : List UInt8) (aE aU : Addr) (w : World) (hfil : Fil x y u v z l) (hpl : l = 10 :: (pt ++ rest)) (hl : l.length ≤ 1000000000) (hE : Ee w 4 aE) (hU : Ee w 5 aU) :
    Calls Tryz.prog 9 #[.string ⟨l.toArray⟩, .agg #[.bool false, .bool false, .bool false, .bool false, .bool false, .bool false, .int .u64 0, .int .u64 0, .int .u64 0, .int .u64 0, .int .u64 0, .int .u64 0]] w fun e w' => ∃ pv ok, e = .returned (.tuple #[pv, .bool ok]) ∧ IrQ x y u v z l pv ok w' ∧ Below w.heap.size w w' := by
  obtain ⟨d, hd⟩ : ∃ d, w.heap.size = d := ⟨_, rfl⟩
  obtain ⟨W, hW⟩ : ∃ W, w.alloc (.cells #[.bool false, .bool false, .bool false, .bool false, .bool false, .bool false, .int .u64 0, .int .u64 0, .int .u64 0, .int .u64 0, .int .u64 0, .int .u64 0] 29) = W := ⟨_, rfl⟩
  have bW : Below w.heap.size w W := by rw [← hW]; exact Old.alloc (Below.refl _ _) _
  have D : Blk W d 29 #[.bool false, .bool false, .bool false, .bool false, .bool false, .bool false, .int .u64 0, .int .u64 0, .int .u64 0, .int .u64 0, .int .u64 0, .int .u64 0] := by rw [← hW, ← hd]; exact Blk.new _ _ _
  have q0 : W.cell? ⟨d, 0, none⟩ = some (.bool false) := D.cell 0
  have q1 : W.cell? ⟨d, 1, none⟩ = some (.bool false) := D.cell 1
  have q2 : W.cell? ⟨d, 2, none⟩ = some (.bool false) := D.cell 2
  have q3 : W.cell? ⟨d, 3, none⟩ = some (.bool false) := D.cell 3
  have q4 : W.cell? ⟨d, 4, none⟩ = some (.bool false) := D.cell 4
  have q5 : W.cell? ⟨d, 5, none⟩ = some (.bool false) := D.cell 5
  have q6 : W.cell? ⟨d, 6, none⟩ = some (.int .u64 0) := D.cell 6
  have q7 : W.cell? ⟨d, 7, none⟩ = some (.int .u64 0) := D.cell 7
  have q8 : W.cell? ⟨d, 8, none⟩ = some (.int .u64 0) := D.cell 8
  have q9 : W.cell? ⟨d, 9, none⟩ = some (.int .u64 0) := D.cell 9
  have q10 : W.cell? ⟨d, 10, none⟩ = some (.int .u64 0) := D.cell 10
  have q11 : W.cell? ⟨d, 11, none⟩ = some (.int .u64 0) := D.cell 11
  have hdl := D.lt
  have hcv := fun W => Lib.run_convert_string_bytes (P := Tryz.prog) W 9 54 5 ⟨l.toArray⟩ Tryz.underlying9 Tryz.underlying54 Tryz.underlying5
  have HP := Lib.hid (And.intro hfil (And.intro hpl (And.intro hl (And.intro (hE.old bW) (And.intro (hU.old bW) bW)))))
  clear hfil hpl hl hE hU bW D
  go_enter Tryz.func9, Tryz.ntmps9
  go_wp2_with fail
  clear hW hd
  have HQ := Lib.hid (show ∀ W', Below W.heap.size W W' → W'.cell? ⟨d, 0, none⟩ = some (.bool false) ∧ W'.cell? ⟨d, 1, none⟩ = some (.bool false) ∧ W'.cell? ⟨d, 2, none⟩ = some (.bool false) ∧ W'.cell? ⟨d, 3, none⟩ = some (.bool false) ∧ W'.cell? ⟨d, 4, none⟩ = some (.bool false) ∧ W'.cell? ⟨d, 5, none⟩ = some (.bool false) ∧ W'.cell? ⟨d, 6, none⟩ = some (.int .u64 0) ∧ W'.cell? ⟨d, 7, none⟩ = some (.int .u64 0) ∧ W'.cell? ⟨d, 8, none⟩ = some (.int .u64 0) ∧ W'.cell? ⟨d, 9, none⟩ = some (.int .u64 0) ∧ W'.cell? ⟨d, 10, none⟩ = some (.int .u64 0) ∧ W'.cell? ⟨d, 11, none⟩ = some (.int .u64 0) from fun W' b => ⟨(b.cell (p := ⟨d, 0, none⟩) hdl).trans q0, (b.cell (p := ⟨d, 1, none⟩) hdl).trans q1, (b.cell (p := ⟨d, 2, none⟩) hdl).trans q2, (b.cell (p := ⟨d, 3, none⟩) hdl).trans q3, (b.cell (p := ⟨d, 4, none⟩) hdl).trans q4, (b.cell (p := ⟨d, 5, none⟩) hdl).trans q5, (b.cell (p := ⟨d, 6, none⟩) hdl).trans q6, (b.cell (p := ⟨d, 7, none⟩) hdl).trans q7, (b.cell (p := ⟨d, 8, none⟩) hdl).trans q8, (b.cell (p := ⟨d, 9, none⟩) hdl).trans q9, (b.cell (p := ⟨d, 10, none⟩) hdl).trans q10, (b.cell (p := ⟨d, 11, none⟩) hdl).trans q11⟩)
  have hbw : Below W.heap.size W (Lib.bytesWorld W.drew 5 ⟨l.toArray⟩) := ((Below.refl W.heap.size W).drew).trans (bw_below W.drew 5 ⟨l.toArray⟩)
  obtain ⟨p0, p1, p2, p3, p4, p5, p6, p7, p8, p9, p10, p11⟩ := HQ.out _ hbw
  clear hbw
  go_region_with (first
      | (go_at_call 12; refine (newReader_any _ _ _ _ _).mono ?_; rintro _ v1 ⟨rfl, R1, B1⟩; obtain ⟨r0, r1, r2, r3, r4, r5, r6, r7, r8, r9, r10, r11⟩ := HQ.out v1 (bIn l B1 (Below.refl _ _)))
      | (go_at_call 13; refine (options_any _).mono ?_; rintro _ v2 ⟨g8, b0, b1, b2, b3, b4, b5, b6, b7, rfl, O2, B2⟩)
      | (go_at_call 11; refine (newRd _ W.heap.size 0 l.length (grownCap W.drew l.length 0 5) 0 g8 b0 b1 b2 b3 b4 b5 b6 b7 x y u v z rest l aE aU v2 HP.out.1 HP.out.2.1 O2 (R1.old B2) ((bsIn l W.drew B1).old B2) rfl (grownCap_ge _ _ _ _) (by have := HP.out.2.2.1; omega) (HP.out.2.2.2.1.old (bIn l B1 B2)) (HP.out.2.2.2.2.1.old (bIn l B1 B2))).mono ?_; rintro _ v3 ⟨pv, er, rfl, Q3, B3⟩))
  all_goals
    have HB := Lib.hid (Old.trans HP.out.2.2.2.2.2 (Old.trans (bIn l B1 B2) B3))
    clear O2 R1 B1 B2 B3 hcv q0 p0 r0 q1 p1 r1 q2 p2 r2 q3 p3 r3 q4 p4 r4 q5 p5 r5 q6 p6 r6 q7 p7 r7 q8 p8 r8 q9 p9 r9 q10 p10 r10 q11 p11 r11
    rcases Q3 with ⟨h51, hs, rfl, cr, rfl, B⟩ | ⟨hno, rfl, t, a, rfl⟩
    · have HG := Lib.hid (And.intro h51 (And.intro hs B))
      clear h51 hs B
      go_wp2_with fail
      go_quiet (fail)
      go_wp2_with fail
      go_ret2
      exact ⟨_, true, rfl, .inl ⟨HG.out.1, HG.out.2.1, rfl, cr, _, rfl, HG.out.2.2.drewN _⟩, below_drewN HB.out _⟩
    · have HG := Lib.hid hno
      clear hno
      go_wp2_with fail
      go_quiet (fail)
      go_wp2_with fail
      go_ret2
      exact ⟨_, false, rfl, .inr ⟨HG.out, rfl, rfl⟩, below_drewN HB.out _⟩
end Go.Proofs.YtakkdpbpoghfgaaGreatDoor
