/-
  The walk of laws.FnSeBlock. Conditions: as the contract says.
-/
import Derived.Test.YtaionnajhgjekaaDoorSh
import Derived.Test.YtaionnajhgjekaaDoorSg
namespace Go.Proofs.YtaionnajhgjekaaDoor
open Go.RowKit

theorem ldWr_sec (y : BlkL) : ldWr [y.c.wr, y.data] = y.sec := by
  unfold ldWr BlkL.sec
  simp

theorem ba_app3 (a b : List UInt8) : (⟨a.toArray⟩ : ByteArray) ++ ⟨b.toArray⟩ = ⟨(a ++ b).toArray⟩ := by
  apply ByteArray.ext
  simp

set_option maxRecDepth 100000 in
set_option maxHeartbeats 4000000 in
theorem fnSeBlock_walk (y : BlkL) (more : List UInt8) (ze : Bool) (aE aU aO aM aS : Addr) (w : World) (hf : y.fit) (hmo : more.length ≤ 9223372036854775807) (E : Errs2 aE aU aO aM aS w) :
    Calls Tryd.prog 6 #[.agg y.val, .string ⟨more.toArray⟩, .bool ze] w fun e w' => e = .returned (.bool true) ∧ Below w.heap.size w w' := by
  have b0 := Old.alloc (Below.refl w.heap.size w) (.cells #[.int .u64 (y.c.version : Nat), .int .u64 (y.c.codec : Nat), .int .u64 (y.c.code : Nat), .string ⟨y.c.digest.toArray⟩, .string ⟨y.data.toArray⟩] 40)
  have B0 := Blk.new w 40 #[.int .u64 (y.c.version : Nat), .int .u64 (y.c.codec : Nat), .int .u64 (y.c.code : Nat), .string ⟨y.c.digest.toArray⟩, .string ⟨y.data.toArray⟩]
  have HZ := Lib.hid (fun W => zzFits6_b y W hf)
  have HG := Lib.hid (fun W => seGood_any y W hf)
  have HE := Lib.hid E
  have HM := Lib.hid hmo
  unfold BlkL.val
  clear hf E hmo
  go_enter Tryd.func6, Tryd.ntmps6
  go_wp2_with fail
  generalize w.alloc (.cells #[.int .u64 (y.c.version : Nat), .int .u64 (y.c.codec : Nat), .int .u64 (y.c.code : Nat), .string ⟨y.c.digest.toArray⟩, .string ⟨y.data.toArray⟩] 40) = V at *
  refine (HZ.out V).mono ?_
  rintro e w1 ⟨⟨Z, rfl, hZ⟩, b1⟩
  have b01 := Old.trans b0 b1
  have B1 := B0.old b1
  clear hZ b0 b1 B0
  cases Z
  · go_wp2_with fail
    go_ret
    exact ⟨rfl, b01⟩
  by_cases hmz : 2147483647 < more.length
  · have hmd : decide ((2147483647 : Int) < (more.length : Int)) = true := by simp; omega
    clear hmz
    go_wp2_with fail
    go_ret
    exact ⟨rfl, b01⟩
  have hmd : decide ((2147483647 : Int) < (more.length : Int)) = false := by simp; omega
  have c0 : w1.cell? ⟨w.heap.size, 0, none⟩ = some (.int .u64 (y.c.version : Nat)) := B1.cell 0
  have c1 : w1.cell? ⟨w.heap.size, 1, none⟩ = some (.int .u64 (y.c.codec : Nat)) := B1.cell 1
  have c2 : w1.cell? ⟨w.heap.size, 2, none⟩ = some (.int .u64 (y.c.code : Nat)) := B1.cell 2
  have c3 : w1.cell? ⟨w.heap.size, 3, none⟩ = some (.string ⟨y.c.digest.toArray⟩) := B1.cell 3
  have c4 : w1.cell? ⟨w.heap.size, 4, none⟩ = some (.string ⟨y.data.toArray⟩) := B1.cell 4
  go_wp2_with fail
  refine (HG.out w1).mono ?_
  rintro e w2 ⟨⟨G, rfl, hG⟩, b2⟩
  have b02 := Old.trans b01 b2
  have B2 := B1.old b2
  have HGd := Lib.hid hG
  clear hG b2 B1 c0 c1 c2 c3 c4 b01 hmd HZ HG
  cases G
  · go_wp2_with fail
    go_ret
    exact ⟨rfl, b02⟩
  have hgd : y.good := HGd.out (by first | rfl | trivial)
  by_cases hm4 : 16384 < more.length
  · have hmd : decide ((16384 : Int) < (more.length : Int)) = true := by simp; omega
    clear hm4
    go_wp2_with fail
    go_ret
    exact ⟨rfl, b02⟩
  have hmd : decide ((16384 : Int) < (more.length : Int)) = false := by simp; omega
  -- the plain facts
  have hx := hgd.2.1
  have hxd : y.c.digest.length ≤ 4096 := by have := hgd.2.2; omega
  have hda := hgd.1
  have hwl := wr_len2 hx hxd
  obtain ⟨lead, hlead⟩ : ∃ lead, Lib.uvarint (y.c.wr.length + y.data.length) = lead := ⟨_, rfl⟩
  have hul : lead.length ≤ 10 := by have := Lib.uvarint_length64 (x := y.c.wr.length + y.data.length) (by omega); rw [hlead] at this; exact this
  have hsec : y.sec = lead ++ (y.c.wr ++ y.data) := by rw [← hlead]; rfl
  have hr1 := uvRd_uvarint (y.c.wr.length + y.data.length) (y.c.wr ++ (y.data ++ more)) (by omega)
  have hr2 := uvRd_uvarint (y.c.wr.length + y.data.length) y.c.wr (by omega)
  rw [hlead] at hr1 hr2
  have hl1 : lead ++ (y.c.wr ++ (y.data ++ more)) = y.sec ++ more := by rw [hsec]; simp only [List.append_assoc]
  rw [hl1] at hr1
  have hd1 : (y.sec ++ more).drop lead.length = y.c.wr ++ (y.data ++ more) := by rw [← hl1, List.drop_left]
  have hd2 : (lead ++ y.c.wr).drop lead.length = y.c.wr ++ [] := by rw [List.drop_left, List.append_nil]
  have hsl : y.sec.length = lead.length + y.c.wr.length + y.data.length := by rw [hsec]; simp only [List.length_append]; omega
  have ht2 : y.sec.take (lead.length + y.c.wr.length) = lead ++ y.c.wr := by
    rw [hsec, ← List.append_assoc, List.take_left' (by rw [List.length_append])]
  obtain ⟨p, hp⟩ : ∃ p, lead.length + y.c.wr.length = p := ⟨_, rfl⟩
  rw [hp] at hsl ht2
  have hcb := fun W (hb : Below w.heap.size w W) => cdBytes_any y.c W hx hxd (HE.out.old hb).e.eO.er (HE.out.old hb).e.eM.er (HE.out.old hb).e2 (HE.out.old hb).e3
  have hlw := fun g W (hb : So W g 0 [y.c.wr, y.data]) => ldWrite_any (some ⟨g, 0, none⟩) 2 2 [y.c.wr, y.data] W rfl (by omega) (.inr ⟨_, _, rfl, hb⟩) (fun s hs => by simp at hs; rcases hs with rfl | rfl <;> omega) (by simp; omega)
  simp only [ldWr_sec] at hlw
  have hse := fun W (hb : Below w.heap.size w W) => seRead_ok y more 1048576 ze aE aU aO aM aS W hx hxd (by omega) (by omega) (by omega) (by omega) (HE.out.old hb)
  have hh1 := fun W (hb : Below w.heap.size w W) => seHead_ok y.c (y.sec ++ more) (y.data ++ more) lead.length (y.c.wr.length + y.data.length) 1048576 ze aE aU aO aM aS W hx hxd (by rw [List.length_append]; omega) (by omega) hr1 hd1 (by omega) (by omega) (by omega) (HE.out.old hb)
  have hh2 := fun W (hb : Below w.heap.size w W) => seHead_ok y.c (lead ++ y.c.wr) [] lead.length (y.c.wr.length + y.data.length) 1048576 ze aE aU aO aM aS W hx hxd (by rw [List.length_append]; omega) (by omega) hr2 hd2 (by omega) (by omega) (by omega) (HE.out.old hb)
  have hsn := fun W => specSection_any y W hx hxd (by omega)
  rw [hp, Nat.add_sub_cancel_left] at hh1 hh2
  rw [← ht2] at hh2
  obtain ⟨S, hS⟩ : ∃ S, y.sec = S := ⟨_, rfl⟩
  rw [hS] at hlw hse hh1 hh2 hsn hsl
  obtain ⟨d, hd⟩ : ∃ d, y.data.length = d := ⟨_, rfl⟩
  rw [hd] at hh1 hh2 hsl hda
  have hSl : S.length ≤ 30000 := by omega
  have hps : (p : Int) ≤ (S.length : Int) := by omega
  have hwp : IntKind.i64.wrap ((S.length : Int) - (d : Int)) = (p : Int) := by rw [IntKind.wrap_i64]; omega
  have hwd : IntKind.u64.wrap (d : Int) = (d : Int) := by rw [IntKind.wrap_u64]; omega
  have HX := Lib.hid (And.intro hcb (And.intro hlw (And.intro hse (And.intro hh1 (And.intro hh2 hsn)))))
  clear hcb hlw hse hh1 hh2 hsn hx hxd hwl hlead hul hsec hr1 hr2 hl1 hd1 hd2 ht2 hp hS hgd HGd
  have c0 : w2.cell? ⟨w.heap.size, 0, none⟩ = some (.int .u64 (y.c.version : Nat)) := B2.cell 0
  have c1 : w2.cell? ⟨w.heap.size, 1, none⟩ = some (.int .u64 (y.c.codec : Nat)) := B2.cell 1
  have c2 : w2.cell? ⟨w.heap.size, 2, none⟩ = some (.int .u64 (y.c.code : Nat)) := B2.cell 2
  have c3 : w2.cell? ⟨w.heap.size, 3, none⟩ = some (.string ⟨y.c.digest.toArray⟩) := B2.cell 3
  go_wp2_with fail
  refine (HX.out.1 w2 b02).mono ?_
  rintro e w3 ⟨rfl, b3⟩
  have b03 := Old.trans b02 b3
  have B3 := B2.old b3
  have c4 : w3.cell? ⟨w.heap.size, 4, none⟩ = some (.string ⟨y.data.toArray⟩) := B3.cell 4
  have b04 := Old.alloc b03 (.cells #[.string ⟨y.c.wr.toArray⟩, .string ⟨y.data.toArray⟩] 9)
  have B4 := B3.alloc (.cells #[.string ⟨y.c.wr.toArray⟩, .string ⟨y.data.toArray⟩] 9)
  have S4 := so_two (Blk.new w3 9 #[.string ⟨y.c.wr.toArray⟩, .string ⟨y.data.toArray⟩])
  clear c0 c1 c2 c3 b02 b3 B2 b03 B3
  go_wp2_with fail
  clear c4
  generalize w3.alloc (.cells #[.string ⟨y.c.wr.toArray⟩, .string ⟨y.data.toArray⟩] 9) = w4 at *
  refine (HX.out.2.1 _ w4 S4).mono ?_
  rintro e w5 ⟨rfl, b5⟩
  have b05 := Old.trans b04 b5
  have B5 := B4.old b5
  have happ := ba_app3
  clear S4 b04 B4 b5
  go_wp2_with fail
  refine (HX.out.2.2.1 w5 b05).mono ?_
  rintro e w6 ⟨rfl, b6⟩
  unfold BlkL.val
  have b07 := Old.alloc (Old.trans b05 b6) (.cells #[.int .u64 (y.c.version : Nat), .int .u64 (y.c.codec : Nat), .int .u64 (y.c.code : Nat), .string ⟨y.c.digest.toArray⟩, .string ⟨y.data.toArray⟩] 40)
  have B7 := (B5.old b6).alloc (.cells #[.int .u64 (y.c.version : Nat), .int .u64 (y.c.codec : Nat), .int .u64 (y.c.code : Nat), .string ⟨y.c.digest.toArray⟩, .string ⟨y.data.toArray⟩] 40)
  have R7 := Blk.new w6 40 #[.int .u64 (y.c.version : Nat), .int .u64 (y.c.codec : Nat), .int .u64 (y.c.code : Nat), .string ⟨y.c.digest.toArray⟩, .string ⟨y.data.toArray⟩]
  clear b05 B5 b6
  go_wp2_with fail
  generalize w6.alloc (.cells #[.int .u64 (y.c.version : Nat), .int .u64 (y.c.codec : Nat), .int .u64 (y.c.code : Nat), .string ⟨y.c.digest.toArray⟩, .string ⟨y.data.toArray⟩] 40) = w7 at *
  refine (HX.out.2.2.2.1 w7 b07).mono ?_
  rintro e w8 ⟨rfl, b8⟩
  have b09 := Old.alloc (Old.trans b07 b8) (.cells #[.int .u64 (y.c.version : Nat), .int .u64 (y.c.codec : Nat), .int .u64 (y.c.code : Nat), .string ⟨y.c.digest.toArray⟩] 38)
  have B9 := (B7.old b8).alloc (.cells #[.int .u64 (y.c.version : Nat), .int .u64 (y.c.codec : Nat), .int .u64 (y.c.code : Nat), .string ⟨y.c.digest.toArray⟩] 38)
  have R9 := (R7.old b8).alloc (.cells #[.int .u64 (y.c.version : Nat), .int .u64 (y.c.codec : Nat), .int .u64 (y.c.code : Nat), .string ⟨y.c.digest.toArray⟩] 38)
  have T9 := Blk.new w8 38 #[.int .u64 (y.c.version : Nat), .int .u64 (y.c.codec : Nat), .int .u64 (y.c.code : Nat), .string ⟨y.c.digest.toArray⟩]
  obtain ⟨w9, hw9⟩ : ∃ w9, w8.alloc (.cells #[.int .u64 (y.c.version : Nat), .int .u64 (y.c.codec : Nat), .int .u64 (y.c.code : Nat), .string ⟨y.c.digest.toArray⟩] 38) = w9 := ⟨_, rfl⟩
  rw [hw9] at b09 B9 R9 T9
  have c4 : w9.cell? ⟨w.heap.size, 4, none⟩ = some (.string ⟨y.data.toArray⟩) := B9.cell 4
  clear b07 B7 R7 b8
  go_wp2_with fail
  clear c4 hw9
  rw [str_to]
  refine (HX.out.2.2.2.2.1 w9 b09).mono ?_
  rintro e w10 ⟨rfl, b10⟩
  have b11 := Old.alloc (Old.trans b09 b10) (.cells #[.int .u64 (y.c.version : Nat), .int .u64 (y.c.codec : Nat), .int .u64 (y.c.code : Nat), .string ⟨y.c.digest.toArray⟩] 38)
  have B11 := (B9.old b10).alloc (.cells #[.int .u64 (y.c.version : Nat), .int .u64 (y.c.codec : Nat), .int .u64 (y.c.code : Nat), .string ⟨y.c.digest.toArray⟩] 38)
  have R11 := (R9.old b10).alloc (.cells #[.int .u64 (y.c.version : Nat), .int .u64 (y.c.codec : Nat), .int .u64 (y.c.code : Nat), .string ⟨y.c.digest.toArray⟩] 38)
  have T11 := (T9.old b10).alloc (.cells #[.int .u64 (y.c.version : Nat), .int .u64 (y.c.codec : Nat), .int .u64 (y.c.code : Nat), .string ⟨y.c.digest.toArray⟩] 38)
  have U11 := Blk.new w10 38 #[.int .u64 (y.c.version : Nat), .int .u64 (y.c.codec : Nat), .int .u64 (y.c.code : Nat), .string ⟨y.c.digest.toArray⟩]
  obtain ⟨w11, hw11⟩ : ∃ w11, w10.alloc (.cells #[.int .u64 (y.c.version : Nat), .int .u64 (y.c.codec : Nat), .int .u64 (y.c.code : Nat), .string ⟨y.c.digest.toArray⟩] 38) = w11 := ⟨_, rfl⟩
  rw [hw11] at b11 B11 R11 T11 U11
  have c0 : w11.cell? ⟨w.heap.size, 0, none⟩ = some (.int .u64 (y.c.version : Nat)) := B11.cell 0
  have c1 : w11.cell? ⟨w.heap.size, 1, none⟩ = some (.int .u64 (y.c.codec : Nat)) := B11.cell 1
  have c2 : w11.cell? ⟨w.heap.size, 2, none⟩ = some (.int .u64 (y.c.code : Nat)) := B11.cell 2
  have c3 : w11.cell? ⟨w.heap.size, 3, none⟩ = some (.string ⟨y.c.digest.toArray⟩) := B11.cell 3
  have c4 : w11.cell? ⟨w.heap.size, 4, none⟩ = some (.string ⟨y.data.toArray⟩) := B11.cell 4
  clear b09 B9 R9 T9 b10
  go_wp2_with fail
  clear c0 c1 c2 c3 c4 hw11
  refine (HX.out.2.2.2.2.2 w11).mono ?_
  rintro e w12 ⟨rfl, b12⟩
  have b := Old.trans b11 b12
  have B := B11.old b12
  have R := R11.old b12
  have T := T11.old b12
  have U := U11.old b12
  have c0 : w12.cell? ⟨w.heap.size, 0, none⟩ = some (.int .u64 (y.c.version : Nat)) := B.cell 0
  have c1 : w12.cell? ⟨w.heap.size, 1, none⟩ = some (.int .u64 (y.c.codec : Nat)) := B.cell 1
  have c2 : w12.cell? ⟨w.heap.size, 2, none⟩ = some (.int .u64 (y.c.code : Nat)) := B.cell 2
  have c3 : w12.cell? ⟨w.heap.size, 3, none⟩ = some (.string ⟨y.c.digest.toArray⟩) := B.cell 3
  have c4 : w12.cell? ⟨w.heap.size, 4, none⟩ = some (.string ⟨y.data.toArray⟩) := B.cell 4
  have p0 : w12.cell? ⟨w6.heap.size, 0, none⟩ = some (.int .u64 (y.c.version : Nat)) := R.cell 0
  have p1 : w12.cell? ⟨w6.heap.size, 1, none⟩ = some (.int .u64 (y.c.codec : Nat)) := R.cell 1
  have p2 : w12.cell? ⟨w6.heap.size, 2, none⟩ = some (.int .u64 (y.c.code : Nat)) := R.cell 2
  have p3 : w12.cell? ⟨w6.heap.size, 3, none⟩ = some (.string ⟨y.c.digest.toArray⟩) := R.cell 3
  have p4 : w12.cell? ⟨w6.heap.size, 4, none⟩ = some (.string ⟨y.data.toArray⟩) := R.cell 4
  have q0 : w12.cell? ⟨w8.heap.size, 0, none⟩ = some (.int .u64 (y.c.version : Nat)) := T.cell 0
  have q1 : w12.cell? ⟨w8.heap.size, 1, none⟩ = some (.int .u64 (y.c.codec : Nat)) := T.cell 1
  have q2 : w12.cell? ⟨w8.heap.size, 2, none⟩ = some (.int .u64 (y.c.code : Nat)) := T.cell 2
  have q3 : w12.cell? ⟨w8.heap.size, 3, none⟩ = some (.string ⟨y.c.digest.toArray⟩) := T.cell 3
  have u0 : w12.cell? ⟨w10.heap.size, 0, none⟩ = some (.int .u64 (y.c.version : Nat)) := U.cell 0
  have u1 : w12.cell? ⟨w10.heap.size, 1, none⟩ = some (.int .u64 (y.c.codec : Nat)) := U.cell 1
  have u2 : w12.cell? ⟨w10.heap.size, 2, none⟩ = some (.int .u64 (y.c.code : Nat)) := U.cell 2
  have u3 : w12.cell? ⟨w10.heap.size, 3, none⟩ = some (.string ⟨y.c.digest.toArray⟩) := U.cell 3
  clear b11 B11 R11 T11 U11 b12 B R T U
  go_wp2_with fail
  go_ret
  exact ⟨rfl, b⟩
end Go.Proofs.YtaionnajhgjekaaDoor
