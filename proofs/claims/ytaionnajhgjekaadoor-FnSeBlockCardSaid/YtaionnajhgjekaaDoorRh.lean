/-
  The walk of util.ReadNodeHeader over a bytes.Reader. Conditions: as the contract says.
-/
import Derived.Test.YtaionnajhgjekaaDoorLr
import Derived.Test.YtaionnajhgjekaaDoorCfl
namespace Go.Proofs.YtaionnajhgjekaaDoor
open Go.RowKit

theorem Kp.drop {r t : Nat} {a b c : World} (h : Kp [r] a b) (k : Kp [r, t] b c) (ht : a.heap.size ≤ t) : Kp [r] a c :=
  ⟨k.os.trans h.os, k.tape.trans h.tape, k.output.trans h.output, Nat.le_trans h.size k.size, fun i hi hn => (k.block i (Nat.lt_of_lt_of_le hi h.size) (by simp at hn ⊢; exact ⟨hn, by omega⟩)).trans (h.block i hi hn)⟩

/-- What ReadNodeHeader comes to: the identifier x, and how many bytes follow it. -/
def RhPost (r g o n c k v : Nat) (x : CidL) (w : World) (e : Ending) (w' : World) : Prop :=
  Kp [r] w w' ∧ e = .returned (.tuple #[.agg #[.string ⟨x.wr.toArray⟩], .int .u64 (v - x.wr.length : Nat), .nilIface]) ∧ Rdr w' r g o n c (k + x.wr.length)

set_option maxRecDepth 100000 in
set_option maxHeartbeats 4000000 in
theorem readNodeHeader_ok (r g o n c k v most : Nat) (ze : Bool) (x : CidL) (l more : List UInt8) (aE aU aO aM aS : Addr) (w : World) (h : Rdr w r g o n c 0) (hc : Bs w g o l) (hn : n = l.length) (hnc : n ≤ c) (hl : l.length ≤ 1000000000) (hgr : g ≠ r) (hglt : g < w.heap.size) (hm : most < 9223372036854775808)
    (hr : uvRd l 0 0 = .ok v k) (hdl : l.drop k = x.wr ++ more) (hx : x.tidy) (hxd : x.digest.length ≤ 4096) (hxl : 0 < x.wr.length) (hxl5 : x.wr.length ≤ 5000) (hxv : x.wr.length ≤ v) (hfit : v ≤ most) (hv9 : v ≤ 1000000000)
    (eE : Ee w 0 aE) (eU : Ee w 2 aU) (eO : Ee w 4 aO) (eM : Ee w 5 aM) (eS : Ee w 3 aS) (e2 : Er w 7) (e3 : Er w 8)
    (rE : r ≠ 0) (rU : r ≠ 2) (rO : r ≠ 4) (rM : r ≠ 5) (rS : r ≠ 3) (r2 : r ≠ 7) (r3 : r ≠ 8) :
    Calls Tryd.prog 36 #[.iface 60 (.pointer (some ⟨r, 0, none⟩)), .bool ze, .int .u64 (most : Nat)] w (RhPost r g o n c k v x w) := by
  obtain ⟨_, uk1, uk2, _⟩ := uvRd_ok0 hr
  have hlen : l.length = k + x.wr.length + more.length := by
    have h1 : (l.drop k).length = (x.wr ++ more).length := by rw [hdl]
    simp only [List.length_drop, List.length_append] at h1
    omega
  have hrl := h.lt
  have hls := fun W (hb : Below w.heap.size w W) => ldReadSize_any r g o n c v k most false ze l aE aU aO aM aS W (h.old hb) (hc.old hb) hn hl hgr (by omega) ⟨hr, by omega, by omega⟩ (eE.old hb) (eU.old hb) (eO.old hb) (eM.old hb) (eS.old hb) rE rU rO rM rS
  have b0 := Old.alloc (Below.refl w.heap.size w) (.cells #[.string ⟨#[]⟩] 72)
  have B0 := Blk.new w 72 #[.string ⟨#[]⟩]
  have hcr := cdRd_wr x [] hx (by omega)
  rw [List.append_nil] at hcr
  have H : LrH n c (k + v) k l x.wr more := ⟨hn, hnc, by omega, hdl, by omega, by omega⟩
  have hwi : IntKind.i64.wrap (v : Int) = (v : Int) := by rw [IntKind.wrap_i64]; omega
  have hmin : min (most : Int) 9223372036854775807 = (most : Int) := by omega
  obtain ⟨q, hq⟩ : ∃ q, x.wr.length = q := ⟨_, rfl⟩
  rw [hq] at hcr hxl hxl5 hxv hlen
  have hwq : IntKind.u64.wrap (q : Int) = (q : Int) := by rw [IntKind.wrap_u64]; omega
  have hwv : IntKind.u64.wrap ((v : Int) - (q : Int)) = ((v - q : Nat) : Int) := by rw [IntKind.wrap_u64]; omega
  have hv0 : decide (v = 0) = false := by simp; omega
  have hv0' : decide ((v : Int) = 0) = false := by simp; omega
  have HR := Lib.hid (And.intro hls (And.intro hfit (And.intro hcr (And.intro H (And.intro hq (And.intro hxd (And.intro hglt hgr)))))))
  have HE := Lib.hid (And.intro eE (And.intro eU (And.intro eO (And.intro eM (And.intro e2 e3)))))
  have HN := Lib.hid (And.intro rE (And.intro rU (And.intro rO (And.intro rM (And.intro r2 r3)))))
  have gE := eE.lt
  have gU := eU.lt
  have gO := eO.lt
  have gM := eM.lt
  have g2 : 7 < w.heap.size := by obtain ⟨t, p, h⟩ := e2; exact World.block_lt_of_cell? w _ h
  have g3 : 8 < w.heap.size := by obtain ⟨t, p, h⟩ := e3; exact World.block_lt_of_cell? w _ h
  have HC := Lib.hid (And.intro hc hl)
  clear hls hfit hcr H hq hxd hglt hgr eE eU eO eM eS e2 e3 rE rU rO rM rS r2 r3 h hc hn hnc hl hr hdl hx hlen uk1 uk2
  go_enter Tryd.func36, Tryd.ntmps36
  go_wp2_with fail
  generalize w.alloc (.cells #[.string ⟨#[]⟩] 72) = W0 at *
  refine (HR.out.1 W0 b0).mono ?_
  rintro e w1 ⟨K1, j, hj, R1, _, _, h3⟩
  obtain ⟨rfl, rfl⟩ := h3 rfl HR.out.2.1
  clear h3
  have B1 := B0.kp K1 (by simp; omega)
  have K01 : Kp [r] w w1 := (Kp.of_below b0 [r]).trans K1
  have z1 := K01.size
  have zB := B1.lt
  clear b0 B0 K1
  go_wp2_with fail
  refine (limitReader_any r v w1).mono ?_
  rintro e w2 ⟨rfl, T2, b2⟩
  have K02 := K01.trans (Kp.of_below b2 [r])
  have B2 := B1.old b2
  have R2 : Lrq w1.heap.size r g o n c (j + v) j w2 0 := ⟨R1.old b2, by rw [show j + v - (j + 0) = v by omega]; exact T2⟩
  have hc2 : Bs w2 g o l := HC.out.1.kp K02 (by simpa using HR.out.2.2.2.2.2.2.2)
  have z2 := b2.size
  have hgl := HR.out.2.2.2.2.2.2.1
  have hcf := cidFromReaderL_ok w1.heap.size r g o n c (j + v) j q l x.wr more x q aE aU aO aM w2 R2 hc2 HR.out.2.2.2.1 HR.out.2.2.2.2.1.symm (by rw [HR.out.2.2.2.2.1]; omega) HR.out.2.2.2.2.2.2.2 (by omega) (by omega) (by omega) HR.out.2.2.1 HR.out.2.2.2.2.2.1
    (HE.out.1.kp K02 (by simpa using fun h => HN.out.1 h.symm)) (HE.out.2.1.kp K02 (by simpa using fun h => HN.out.2.1 h.symm)) (HE.out.2.2.1.kp K02 (by simpa using fun h => HN.out.2.2.1 h.symm)) (HE.out.2.2.2.1.kp K02 (by simpa using fun h => HN.out.2.2.2.1 h.symm)) (HE.out.2.2.2.2.1.kp K02 (by simpa using fun h => HN.out.2.2.2.2.1 h.symm)) (HE.out.2.2.2.2.2.kp K02 (by simpa using fun h => HN.out.2.2.2.2.2 h.symm))
    (by simp; exact ⟨fun h => HN.out.1 h.symm, by omega⟩) (by simp; exact ⟨fun h => HN.out.2.1 h.symm, by omega⟩) (by simp; exact ⟨fun h => HN.out.2.2.1 h.symm, by omega⟩) (by simp; exact ⟨fun h => HN.out.2.2.2.1 h.symm, by omega⟩) (by simp; exact ⟨fun h => HN.out.2.2.2.2.1 h.symm, by omega⟩) (by simp; exact ⟨fun h => HN.out.2.2.2.2.2 h.symm, by omega⟩)
  have HF := Lib.hid hcf
  clear hcf hc2 R2 T2 R1 B1 b2
  go_wp2_with fail
  refine HF.out.mono ?_
  rintro e w3 ⟨rfl, R3, K3⟩
  have K03 := Kp.drop K02 K3 z1
  have B3 := B2.kp K3 (by simp; omega)
  have B4 := B3.alloc (.cells #[.string ⟨x.wr.toArray⟩] 72)
  have K04 := K03.alloc (.cells #[.string ⟨x.wr.toArray⟩] 72)
  have R4 : Rdr (w3.alloc (.cells #[.string ⟨x.wr.toArray⟩] 72)) r g o n c (j + q) := by obtain ⟨⟨p, R3⟩, _⟩ := R3; exact ⟨p, R3.alloc _⟩
  have C4 := Blk.new w3 72 #[.string ⟨x.wr.toArray⟩]
  have z3 := B3.lt
  clear HF K02 B2 K3 R3 B3 K03
  obtain ⟨W4, hW4⟩ : ∃ W4, w3.alloc (.cells #[.string ⟨x.wr.toArray⟩] 72) = W4 := ⟨_, rfl⟩
  rw [hW4] at B4 K04 R4 C4
  have q4 : W4.cell? ⟨w3.heap.size, 0, none⟩ = some (.string ⟨x.wr.toArray⟩) := C4.cell 0
  have q0 : W4.cell? ⟨w.heap.size, 0, none⟩ = some (.string ⟨#[]⟩) := B4.cell 0
  have f0 := B4.frozen 0
  have HZ := Lib.hid (And.intro K04 R4)
  clear C4 K04 R4
  go_wp2_with fail
  refine bodyPost_ret (ret_cell_tmp_tmp rfl rfl (B4.set_ 0 (.string ⟨x.wr.toArray⟩)) Tryd.underlying72 (by kernel_rfl)) rfl ?_
  refine ⟨HZ.out.1.setCell (p := ⟨w.heap.size, 0, none⟩) (.inr (Nat.le_refl _)) _, by rw [HR.out.2.2.2.2.1]; rfl, ?_⟩
  rw [HR.out.2.2.2.2.1]
  obtain ⟨p, R4⟩ := HZ.out.2
  exact ⟨p, R4.far (p := ⟨w.heap.size, 0, none⟩) (by show r ≠ w.heap.size; omega) _⟩
end Go.Proofs.YtaionnajhgjekaaDoor
