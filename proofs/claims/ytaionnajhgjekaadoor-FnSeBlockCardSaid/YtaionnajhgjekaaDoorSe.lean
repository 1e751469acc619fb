/-
  The walk of impl.SeRead. Conditions: as each contract says.
-/
import Derived.Test.YtaionnajhgjekaaDoorRn
import Derived.Test.YtaionnajhgjekaaDoorSc
import Derived.Test.YtaionnajhgjekaaDoorCdR
import Derived.Test.YtaionnajhgjekaaDoorSj
import Derived.Test.YtaionnajhgjekaaDoorLdO
namespace Go.Proofs.YtaionnajhgjekaaDoor
open Go.RowKit

/-- The errors of reading blocks, where they lie. -/
structure Errs2 (aE aU aO aM aS : Addr) (w : World) : Prop where
  e : Errs aE aU aO aM aS w
  e2 : Er w 7
  e3 : Er w 8
theorem Errs2.old {aE aU aO aM aS : Addr} {w w' : World} (h : Errs2 aE aU aO aM aS w) (b : Below w.heap.size w w') : Errs2 aE aU aO aM aS w' :=
  ⟨h.e.old b, h.e2.old b, h.e3.old b⟩

set_option maxRecDepth 100000 in
set_option maxHeartbeats 4000000 in
theorem seRead_ok (y : BlkL) (more : List UInt8) (most : Nat) (ze : Bool) (aE aU aO aM aS : Addr) (w : World) (hx : y.c.tidy) (hd : y.c.digest.length ≤ 4096) (hda : y.data.length ≤ 1000000) (hmo : more.length ≤ 900000000) (hm : most < 18446744073709551616) (hfit : y.c.wr.length + y.data.length ≤ most)
    (E : Errs2 aE aU aO aM aS w) :
    Calls Tryd.prog 16 #[.string ⟨(y.sec ++ more).toArray⟩, .bool ze, .int .u64 (most : Nat)] w fun e w' => e = .returned (.tuple #[.agg y.val, .int .i64 (y.sec.length : Nat), .int .u8 0]) ∧ Below w.heap.size w w' := by
  have hwl := wr_len2 hx hd
  have hs : y.sec = Lib.uvarint (y.c.wr.length + y.data.length) ++ (y.c.wr ++ y.data) := rfl
  have hsl : y.sec.length = (Lib.uvarint (y.c.wr.length + y.data.length)).length + (y.c.wr.length + y.data.length) := by rw [hs]; simp only [List.length_append]
  have hul := Lib.uvarint_length64 (x := y.c.wr.length + y.data.length) (by omega)
  have hr := uvRd_uvarint (y.c.wr.length + y.data.length) (y.c.wr ++ y.data ++ more) (by omega)
  have hL : Lib.uvarint (y.c.wr.length + y.data.length) ++ (y.c.wr ++ y.data ++ more) = y.sec ++ more := by rw [hs]; simp only [List.append_assoc]
  rw [hL] at hr
  obtain ⟨k, hk⟩ : ∃ k, (Lib.uvarint (y.c.wr.length + y.data.length)).length = k := ⟨_, rfl⟩
  have hdl : (y.sec ++ more).drop k = y.c.wr ++ y.data ++ more := by rw [← hL, ← hk, List.drop_left]
  rw [hk] at hr hsl hul
  have hl : (y.sec ++ more).length ≤ 1000000000 := by rw [List.length_append]; omega
  obtain ⟨l, hll⟩ : ∃ l, y.sec ++ more = l := ⟨_, rfl⟩
  rw [hll] at hr hdl hl
  rw [hll]
  have hsl9 : y.sec.length ≤ 2000000 := by omega
  have hsll : y.sec.length ≤ l.length := by rw [← hll, List.length_append]; omega
  obtain ⟨q, hq⟩ : ∃ q, y.sec.length = q := ⟨_, rfl⟩
  rw [hq] at hsl hsl9 hsll
  rw [hq]
  have hcv := fun W => Lib.run_convert_string_bytes (P := Tryd.prog) W 9 48 5 ⟨l.toArray⟩ Tryd.underlying9 Tryd.underlying48 Tryd.underlying5
  obtain ⟨V, hV⟩ : ∃ V, w.alloc (.cells #[.int .u64 0, .int .u64 0, .int .u64 0, .string ⟨#[]⟩, .string ⟨#[]⟩] 40) = V := ⟨_, rfl⟩
  have bV : Below w.heap.size w V := by rw [← hV]; exact Old.alloc (Below.refl _ _) _
  have BV : Blk V w.heap.size 40 #[.int .u64 0, .int .u64 0, .int .u64 0, .string ⟨#[]⟩, .string ⟨#[]⟩] := by rw [← hV]; exact Blk.new _ _ _
  have hVs : V.heap.size = w.heap.size + 1 := by rw [← hV]; simp
  have hb := bw_below V 5 ⟨l.toArray⟩
  have hbs := bw_bs V 5 ⟨l.toArray⟩
  have hsz := bw_size V 5 ⟨l.toArray⟩
  have hgc := grownCap_ge V (⟨l.toArray⟩ : ByteArray).size 0 5
  rw [hVs] at hbs
  have gE := E.e.eE.lt
  have gU := E.e.eU.lt
  have gO := E.e.eO.lt
  have gM := E.e.eM.lt
  have gS := E.e.eS.lt
  have g2 : 7 < w.heap.size := by obtain ⟨t, p, h⟩ := E.e2; exact World.block_lt_of_cell? w _ h
  have g3 : 8 < w.heap.size := by obtain ⟨t, p, h⟩ := E.e3; exact World.block_lt_of_cell? w _ h
  have HY := Lib.hid (And.intro hx (And.intro hd (And.intro hda (And.intro hwl (And.intro hr (And.intro hdl (And.intro hfit (And.intro hsl E))))))))
  clear hx hd hda hwl hr hdl hfit hsl E hs hL hk hll hq
  go_enter Tryd.func16, Tryd.ntmps16
  go_wp2_with fail
  clear hV hcv
  have bW := Old.trans bV hb
  have BW := BV.old hb
  have hWs : (Lib.bytesWorld V 5 ⟨l.toArray⟩).heap.size = w.heap.size + 1 + 1 := by omega
  clear hVs hsz bV hb BV
  generalize Lib.bytesWorld V 5 ⟨l.toArray⟩ = W at *
  have hnr := newReader_any (w.heap.size + 1) 0 l.length (grownCap V (⟨l.toArray⟩ : ByteArray).size 0 5) W
  rw [hWs] at hnr
  have HNR := Lib.hid hnr
  have HW := Lib.hid hWs
  clear hnr hWs
  refine HNR.out.mono ?_
  rintro e w1 ⟨rfl, R1, b1⟩
  have b01 : Below w.heap.size w w1 := bW.trans (b1.mono (by omega))
  have BR1 := BW.below b1 (by omega)
  have hc1 : Bs w1 (w.heap.size + 1) 0 l := hbs.below b1 (by omega)
  have z1 := R1.lt
  have E1 := HY.out.2.2.2.2.2.2.2.2.old b01
  have hrn := readNode_ok (w.heap.size + 1 + 1) (w.heap.size + 1) 0 l.length _ k most ze y.c y.data l more aE aU aO aM aS w1 R1 hc1 rfl hgc hl (by omega) (by omega) hm HY.out.2.2.2.2.1 HY.out.2.2.2.2.2.1 HY.out.1 HY.out.2.1 HY.out.2.2.2.1.2 HY.out.2.2.2.2.2.2.1
    E1.e.eE E1.e.eU E1.e.eO E1.e.eM E1.e.eS E1.e2 E1.e3 (by omega) (by omega) (by omega) (by omega) (by omega) (by omega) (by omega)
  have HC := Lib.hid hrn
  clear hrn HNR BW hbs bW R1 hc1 b1 hgc E1
  go_wp2_with fail
  refine HC.out.mono ?_
  rintro e w2 ⟨k2, gd, od, cd, rfl, hbd, R2⟩
  have b02 := below_kp b01 k2 (by omega) (by intro i hi; simp at hi; omega)
  have B2 := BR1.kp k2 (by simp; omega)
  clear HC k2 b01 BR1
  go_wp2_with fail
  have b03 := Old.alloc b02 (.cells #[.string ⟨y.c.wr.toArray⟩] 72)
  have B3 := B2.alloc (.cells #[.string ⟨y.c.wr.toArray⟩] 72)
  have C3 := Blk.new w2 72 #[.string ⟨y.c.wr.toArray⟩]
  have hbd3 := hbd.alloc (.cells #[.string ⟨y.c.wr.toArray⟩] 72)
  have R3 : Rdr (w2.alloc (.cells #[.string ⟨y.c.wr.toArray⟩] 72)) (w.heap.size + 1 + 1) (w.heap.size + 1) 0 l.length (grownCap V l.length 0 5) (k + (y.c.wr.length + y.data.length)) := by obtain ⟨z, R2⟩ := R2; exact ⟨z, R2.alloc _⟩
  have z2 := B2.lt
  clear b02 B2 hbd R2
  generalize w2.alloc (.cells #[.string ⟨y.c.wr.toArray⟩] 72) = W3 at *
  have E3 := HY.out.2.2.2.2.2.2.2.2.old b03
  have hco := fun W (hb : Below W3.heap.size W3 W) => cidOut_any y.c y.c.wr W rfl HY.out.1 HY.out.2.1 (by have := HY.out.2.2.2.1.1; omega) HY.out.2.2.2.1.2 (E3.old hb).e.eO.er (E3.old hb).e.eM.er (E3.old hb).e2 (E3.old hb).e3
  rw [← HY.out.2.2.2.2.2.2.2.1] at R3
  have hLen := fun W (hb : Below W3.heap.size W3 W) => rdLen_any (w.heap.size + 1 + 1) (w.heap.size + 1) 0 l.length (grownCap V l.length 0 5) q W (by obtain ⟨z, R3⟩ := R3; exact ⟨z, R3.old hb⟩) hsll (by omega)
  have hcvB := fun W (hb : Below W3.heap.size W3 W) => conv_str (P := Tryd.prog) Tryd.underlying48 Tryd.underlying5 Tryd.underlying9 (n := y.data.length) (c := cd) (hbd3.old hb) rfl
  have HB := Lib.hid (And.intro b03 B3)
  have HFS := Lib.hid (show ∀ W, Below W3.heap.size W3 W → W.cell? ⟨w.heap.size, 0, none⟩ = some (.int .u64 0) ∧ W.cell? ⟨w.heap.size, 1, none⟩ = some (.int .u64 0) ∧ W.cell? ⟨w.heap.size, 2, none⟩ = some (.int .u64 0) ∧ W.cell? ⟨w.heap.size, 3, none⟩ = some (.string ⟨#[]⟩) ∧ W.cell? ⟨w.heap.size, 4, none⟩ = some (.string ⟨#[]⟩) ∧ ∀ o, W.frozen? ⟨w.heap.size, o, none⟩ = false from
    fun W hb => ⟨(B3.old hb).cell 0, (B3.old hb).cell 1, (B3.old hb).cell 2, (B3.old hb).cell 3, (B3.old hb).cell 4, fun o => (B3.old hb).frozen o⟩)
  have HK := Lib.hid (show ∀ W, Below W3.heap.size W3 W → W.cell? ⟨w2.heap.size, 0, none⟩ = some (.string ⟨y.c.wr.toArray⟩) from fun W hb => (C3.old hb).cell 0)
  have HO := Lib.hid (And.intro hco (And.intro hLen hcvB))
  have q3 : W3.cell? ⟨w2.heap.size, 0, none⟩ = some (.string ⟨y.c.wr.toArray⟩) := C3.cell 0
  have hcvd := HO.out.2.2 W3.drew (Below.refl _ _).drew
  have hne : ¬ w2.heap.size = w.heap.size := by omega
  clear hco hLen hcvB b03 B3 C3 hbd3 R3 E3
  go_region_held (fun w' => w'.cell? ⟨w2.heap.size, 0, none⟩ = some (.string ⟨y.c.wr.toArray⟩))
    (first | with_reducible assumption | (rw [World.cell?_setCell_far _ _ _ _ (fun h => hne h.symm), World.cell?_setCell_far _ _ _ _ (fun h => hne h.symm), World.cell?_setCell_far _ _ _ _ (fun h => hne h.symm), World.cell?_setCell_far _ _ _ _ (fun h => hne h.symm), World.cell?_setCell_far _ _ _ _ (fun h => hne h.symm)]; exact HK.out _ (Old.trans (((Below.refl W3.heap.size W3).drew).trans b4) b5)) | exact HK.out _ ((Below.refl _ _).drew) | exact HK.out _ (((Below.refl W3.heap.size W3).drew).trans b4) | exact HK.out _ (Old.trans (((Below.refl W3.heap.size W3).drew).trans b4) b5))
    (first | (go_at_call 32; refine (HO.out.1 _ ?_).mono ?_; exact (Below.refl _ _).drew; rintro _ w4 ⟨rfl, b4⟩; have hcv4 := HO.out.2.2 w4 (((Below.refl W3.heap.size W3).drew).trans b4)) | (go_at_call 25; refine (HO.out.2.1 _ ?_).mono ?_; exact ((Below.refl W3.heap.size W3).drew).trans b4; rintro _ w5 ⟨rfl, b5⟩; have hcv5 := HO.out.2.2 w5 (Old.trans (((Below.refl W3.heap.size W3).drew).trans b4) b5); obtain ⟨r0, r1, r2, r3, r4, ff⟩ := HFS.out w5 (Old.trans (((Below.refl W3.heap.size W3).drew).trans b4) b5)))
  all_goals go_goals
  all_goals
    have hwq : IntKind.i64.wrap ((l.length : Int) - ((l.length - q : Nat) : Int)) = (q : Int) := by rw [IntKind.wrap_i64]; omega
    have b35 := Old.trans (((Below.refl W3.heap.size W3).drew).trans b4) b5
    have b05 := Old.trans HB.out.1 b35
    have B5 := HB.out.2.old b35
    clear HB HO HY HFS HK HW hcvd q3 b4 b5 b35
    go_wp2_with fail
    rw [hwq]
    refine bodyPost_ret (ret_cell_tmp_tmp rfl rfl (B5.row [.int .u64 y.c.version, .int .u64 y.c.codec, .int .u64 y.c.code, .string ⟨y.c.digest.toArray⟩, .string ⟨y.data.toArray⟩] rfl) Tryd.underlying40 (by kernel_rfl)) rfl ?_
    exact ⟨rfl, below_setCells (Nat.le_refl _) [.int .u64 y.c.version, .int .u64 y.c.codec, .int .u64 y.c.code, .string ⟨y.c.digest.toArray⟩, .string ⟨y.data.toArray⟩] 0 _ b05⟩
end Go.Proofs.YtaionnajhgjekaaDoor
