/-
  The walk of impl.SeRead at the end of the bytes. Conditions: as the contract says.
-/
import Derived.Test.YtaionnajhgjekaaDoorSe
namespace Go.Proofs.YtaionnajhgjekaaDoor
open Go.RowKit

set_option maxRecDepth 100000 in
set_option maxHeartbeats 4000000 in
theorem seRead_end (l : List UInt8) (most : Nat) (ze : Bool) (aE aU aO aM aS : Addr) (w : World) (hm : most < 18446744073709551616) (hl0 : l = []) (E : Errs2 aE aU aO aM aS w) :
    Calls Tryd.prog 16 #[.string ⟨l.toArray⟩, .bool ze, .int .u64 (most : Nat)] w fun e w' => e = .returned (.tuple #[.agg #[.int .u64 0, .int .u64 0, .int .u64 0, .string ⟨#[]⟩, .string ⟨#[]⟩], .int .i64 0, .int .u8 1]) ∧ Below w.heap.size w w' := by
  have hl : l.length ≤ 1000000000 := by rw [hl0]; simp
  have hwr : IntKind.i64.wrap ((l.length : Int) - ((l.length - 0 : Nat) : Int)) = 0 := by rw [IntKind.wrap_i64]; omega
  have hcv := fun W => Lib.run_convert_string_bytes (P := Tryd.prog) W 9 48 5 ⟨l.toArray⟩ Tryd.underlying9 Tryd.underlying48 Tryd.underlying5
  obtain ⟨V, hV⟩ : ∃ V, w.alloc (.cells #[.int .u64 0, .int .u64 0, .int .u64 0, .string ⟨#[]⟩, .string ⟨#[]⟩] 40) = V := ⟨_, rfl⟩
  have bV : Below w.heap.size w V := by rw [← hV]; exact Old.alloc (Below.refl _ _) _
  have BV : Blk V w.heap.size 40 #[.int .u64 0, .int .u64 0, .int .u64 0, .string ⟨#[]⟩, .string ⟨#[]⟩] := by rw [← hV]; exact Blk.new _ _ _
  have hVs : V.heap.size = w.heap.size + 1 := by rw [← hV]; simp
  have hb := bw_below V 5 ⟨l.toArray⟩
  have hbs := bw_bs V 5 ⟨l.toArray⟩
  have hsz := bw_size V 5 ⟨l.toArray⟩
  have hgc := grownCap_ge V (⟨l.toArray⟩ : ByteArray).size 0 5
  rw [hVs] at hbs
  have gE := E.e.eE.lt
  have gU := E.e.eU.lt
  have gO := E.e.eO.lt
  have gM := E.e.eM.lt
  have gS := E.e.eS.lt
  have HY := Lib.hid (And.intro hl0 (And.intro hl (And.intro hwr E)))
  clear hl0 E hwr
  go_enter Tryd.func16, Tryd.ntmps16
  go_wp2_with fail
  clear hV hcv
  have bW := Old.trans bV hb
  have BW := BV.old hb
  have hWs : (Lib.bytesWorld V 5 ⟨l.toArray⟩).heap.size = w.heap.size + 1 + 1 := by omega
  clear hVs hsz bV hb BV
  generalize Lib.bytesWorld V 5 ⟨l.toArray⟩ = W at *
  have hnr := newReader_any (w.heap.size + 1) 0 l.length (grownCap V (⟨l.toArray⟩ : ByteArray).size 0 5) W
  rw [hWs] at hnr
  have HNR := Lib.hid hnr
  have HW := Lib.hid hWs
  clear hnr hWs
  refine HNR.out.mono ?_
  rintro e w1 ⟨rfl, R1, b1⟩
  have b01 : Below w.heap.size w w1 := bW.trans (b1.mono (by omega))
  have BR1 := BW.below b1 (by omega)
  have hc1 : Bs w1 (w.heap.size + 1) 0 l := hbs.below b1 (by omega)
  have z1 := R1.lt
  have E1 := HY.out.2.2.2.old b01
  have hrn := readNode_end (w.heap.size + 1 + 1) (w.heap.size + 1) 0 l.length _ most ze l aE aU aO aM aS w1 R1 hc1 rfl hgc HY.out.1 (by omega) (by omega) hm
    E1.e.eE E1.e.eU E1.e.eO E1.e.eM E1.e.eS (by omega) (by omega) (by omega) (by omega) (by omega)
  have HC := Lib.hid hrn
  clear hrn HNR BW hbs bW R1 hc1 b1 hgc E1
  go_wp2_with fail
  refine HC.out.mono ?_
  rintro e w2 ⟨rfl, R2, k2⟩
  have b02 := below_kp b01 k2 (by omega) (by intro i hi; simp at hi; omega)
  have B2 := BR1.kp k2 (by simp; omega)
  have b03 := Old.alloc b02 (.cells #[.string ⟨#[]⟩] 72)
  have B3 := B2.alloc (.cells #[.string ⟨#[]⟩] 72)
  have R3 : Rdr (w2.alloc (.cells #[.string ⟨#[]⟩] 72)) (w.heap.size + 1 + 1) (w.heap.size + 1) 0 l.length (grownCap V l.length 0 5) 0 := by obtain ⟨z, R2⟩ := R2; exact ⟨z, R2.alloc _⟩
  clear HC k2 b01 BR1 b02 B2 R2
  have HL := Lib.hid (rdLen_any (w.heap.size + 1 + 1) (w.heap.size + 1) 0 l.length (grownCap V l.length 0 5) 0 _ R3 (by omega) (by omega))
  clear R3
  go_wp2_with fail
  generalize w2.alloc (.cells #[.string ⟨#[]⟩] 72) = W3 at *
  refine HL.out.mono ?_
  rintro e w4 ⟨rfl, b4⟩
  have b04 := Old.trans b03 b4
  have B4 := B3.old b4
  have hE4 := (HY.out.2.2.2.old b04).e.eE
  have hwr := HY.out.2.2.1
  clear b03 B3 HL b4
  go_wp2_with fail
  refine (kind_eof aE w4 hE4).mono ?_
  rintro e w5 ⟨rfl, rfl⟩
  have f0 := B4.frozen 0
  have f1 := B4.frozen 1
  have f2 := B4.frozen 2
  have f3 := B4.frozen 3
  have f4 := B4.frozen 4
  have r0 : w4.cell? ⟨w.heap.size, 0, none⟩ = some (.int .u64 0) := B4.cell 0
  have r1 : w4.cell? ⟨w.heap.size, 1, none⟩ = some (.int .u64 0) := B4.cell 1
  have r2 : w4.cell? ⟨w.heap.size, 2, none⟩ = some (.int .u64 0) := B4.cell 2
  have r3 : w4.cell? ⟨w.heap.size, 3, none⟩ = some (.string ⟨#[]⟩) := B4.cell 3
  have r4 : w4.cell? ⟨w.heap.size, 4, none⟩ = some (.string ⟨#[]⟩) := B4.cell 4
  go_wp2_with fail
  refine bodyPost_ret (ret_cell_tmp_tmp rfl rfl (B4.row [.int .u64 0, .int .u64 0, .int .u64 0, .string ⟨#[]⟩, .string ⟨#[]⟩] rfl) Tryd.underlying40 (by kernel_rfl)) rfl ?_
  exact ⟨by first | rfl | (simp only [Nat.sub_zero] at hwr ⊢; simp [Array.getD, hwr]), below_setCells (Nat.le_refl _) [.int .u64 0, .int .u64 0, .int .u64 0, .string ⟨#[]⟩, .string ⟨#[]⟩] 0 _ b04⟩
end Go.Proofs.YtaionnajhgjekaaDoor
