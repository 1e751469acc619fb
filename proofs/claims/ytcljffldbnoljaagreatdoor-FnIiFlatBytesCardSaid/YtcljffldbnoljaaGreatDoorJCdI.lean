/-
  The walks of cid.NewCidV0 (of a multihash that fits), impl.cidIn (of an identifier that is tidy), impl.CdBytes. Conditions: as each contract says.
  The walks of Cid.Prefix, Cid.Hash, impl.cidOut (of an identifier that is tidy). Conditions: as each contract says.
  index.newRecordFromCid, (*InsertionIndex).InsertNoReplace, NewInsertionIndex, getRecord, Get; impl.found: their walks. Conditions: as each contract says.
  index.NewInsertionIndex, (*InsertionIndex).InsertNoReplace, getRecord, Get; impl.found: their walks. Conditions: as each contract says.
-/
import Derived.Test.YtcljffldbnoljaaGreatDoorJMhI
import Derived.Recover
import Derived.Deep.RegionWith
import Derived.Deep.RegionHeld3
import Derived.StillTailTactics
import Derived.Test.YtcljffldbnoljaaGreatDoorJLp
namespace Go.Proofs.YtcljffldbnoljaaGreatDoor
open Go.RowKit

set_option maxRecDepth 100000 in
set_option maxHeartbeats 2000000 in
theorem tryV0_any (g o n c : Nat) (m d : List UInt8) (w : World) (hn : n = m.length) (hl : m.length ≤ 2147483647) (hlc : m.length ≤ c) (hc : Bs w g o m) (hg : g < w.heap.size) (hr : mhRd m = some (18, d, m.length)) (hd : d.length = 32)
    (e0 : Er w 3) (e1 : Er w 4) (e2 : Er w 5) (e3 : Er w 7) :
    Calls Tryz.prog 50 #[.slice (some ⟨g, o, none⟩) n c] w fun e w' => e = .returned (.tuple #[.agg #[.string ⟨m.toArray⟩], .nilIface]) ∧ Below w.heap.size w w' := by
  have bA : Below w.heap.size w (w.alloc (.cells #[.string ⟨#[]⟩] 51)) := Old.alloc (Below.refl _ _) _
  have BA := Blk.new w 51 #[.string ⟨#[]⟩]
  have HN := Lib.hid hn
  have HR := Lib.hid (And.intro hr hd)
  clear hn hr hd
  go_enter Tryz.func50, Tryz.ntmps50
  go_wp2_with fail
  generalize w.alloc (.cells #[.string ⟨#[]⟩] 51) = W at *
  have zW := BA.lt
  refine (mhDecode_any g o n c m W HN.out hl hlc (hc.old bA) (Nat.lt_of_lt_of_le hg bA.size) (e0.old bA) (e1.old bA) (e2.old bA) (e3.old bA)).mono ?_
  rw [HR.out.1]
  rintro e w1 ⟨b1, hy, _⟩
  obtain ⟨b, o2, cc, rfl, B1, _, _⟩ := hy rfl
  clear hy
  have b01 := Old.trans bA b1
  have BX := BA.old b1
  have q0 : w1.cell? ⟨b, 0, none⟩ = some (.int .u64 18) := B1.cell 0
  have q2 : w1.cell? ⟨b, 2, none⟩ = some (.int .i64 32) := (B1.cell 2).trans (by show some (Value.int .i64 (d.length : Int)) = _; rw [HR.out.2]; rfl)
  have hcv := conv_str (P := Tryz.prog) Tryz.underlying115 Tryz.underlying5 Tryz.underlying9 (c := c) (hc.old b01) HN.out
  have qX : w1.cell? ⟨w.heap.size, 0, none⟩ = some (.string ⟨#[]⟩) := BX.cell 0
  have fX := BX.frozen 0
  clear B1 BA b1 hc
  go_wp2_with fail
  refine bodyPost_ret (ret_cell_tmp rfl rfl (BX.set_ 0 (.string ⟨m.toArray⟩)) Tryz.underlying51 (by kernel_rfl)) rfl ?_
  exact ⟨rfl, b01.setCell (p := ⟨w.heap.size, 0, none⟩) (Nat.le_refl _) _⟩

set_option maxRecDepth 100000 in
set_option maxHeartbeats 2000000 in
theorem newV0_any (g o n c : Nat) (m d : List UInt8) (w : World) (hn : n = m.length) (hl : m.length ≤ 2147483647) (hlc : m.length ≤ c) (hc : Bs w g o m) (hg : g < w.heap.size) (hr : mhRd m = some (18, d, m.length)) (hd : d.length = 32)
    (e0 : Er w 3) (e1 : Er w 4) (e2 : Er w 5) (e3 : Er w 7) :
    Calls Tryz.prog 36 #[.slice (some ⟨g, o, none⟩) n c] w fun e w' => e = .returned (.agg #[.string ⟨m.toArray⟩]) ∧ Below w.heap.size w w' := by
  have bA : Below w.heap.size w (w.alloc (.cells #[.string ⟨#[]⟩] 51)) := Old.alloc (Below.refl _ _) _
  have BA := Blk.new w 51 #[.string ⟨#[]⟩]
  have HN := Lib.hid hn
  have HR := Lib.hid (And.intro hr hd)
  clear hn hr hd
  go_enter Tryz.func36, Tryz.ntmps36
  go_wp2_with fail
  generalize w.alloc (.cells #[.string ⟨#[]⟩] 51) = W at *
  have zW := BA.lt
  refine (tryV0_any g o n c m d W HN.out hl hlc (hc.old bA) (Nat.lt_of_lt_of_le hg bA.size) HR.out.1 HR.out.2 (e0.old bA) (e1.old bA) (e2.old bA) (e3.old bA)).mono ?_
  rintro e w1 ⟨rfl, b1⟩
  have b01 := Old.trans bA b1
  have BX := BA.old b1
  have qX : w1.cell? ⟨w.heap.size, 0, none⟩ = some (.string ⟨#[]⟩) := BX.cell 0
  have fX := BX.frozen 0
  have z1 : w.heap.size < w1.heap.size := BX.lt
  clear BA b1 hc bA
  go_wp2_with fail
  refine bodyPost_ret (ret_cell rfl rfl ((BX.set_ 0 (.string ⟨m.toArray⟩)).alloc _) Tryz.underlying51 (by kernel_rfl)) rfl ?_
  exact ⟨rfl, Old.alloc (b01.setCell (p := ⟨w.heap.size, 0, none⟩) (Nat.le_refl _) _) _⟩

theorem cidIn_idle (p q : Addr) (w : World) :
    CallsD Tryz.prog 34 #[.pointer (some p), .pointer (some q)] .returning w fun e u' w' => e = .returned (.tuple #[]) ∧ u' = .returning ∧ w' = w := by
  refine callsD_of_wpS Tryz.func34 rfl fun c₀ cs hu => ?_
  apply wpS_seq
  apply wpS_region
  simp [wpOpsS, go_sem, recoverD, hu, Tryz.ntmps34, Exit.thenS]
  refine wpS_cond (t := false) (by simp [Act.eval, Array.replicate]) ?_
  simp only [Bool.false_eq_true, if_false]
  refine wpS_of_wp (wp_skip ?_)
  cases c₀
  simp_all [bodyPostS, results, Tryz.results34]

set_option maxRecDepth 100000 in
set_option maxHeartbeats 2000000 in
theorem cidIn_any (c : CidL) (w : World) (hc : c.tidy) (hd : c.digest.length ≤ 4096)
    (e0 : Er w 3) (e1 : Er w 4) (e2 : Er w 5) (e3 : Er w 7) :
    Calls Tryz.prog 21 #[.agg #[.int .u64 c.version, .int .u64 c.codec, .int .u64 c.code, .string ⟨c.digest.toArray⟩]] w fun e w' => e = .returned (.tuple #[.agg #[.string ⟨c.wr.toArray⟩], .bool true]) ∧ Below w.heap.size w w' := by
  have hcv := fun W => Lib.run_convert_string_bytes (P := Tryz.prog) W 9 47 5 ⟨c.digest.toArray⟩ Tryz.underlying9 Tryz.underlying47 Tryz.underlying5
  have HC := Lib.hid hc
  clear hc
  have hb := bw_below (((w.alloc (.cells #[.int .u64 c.version, .int .u64 c.codec, .int .u64 c.code, .string ⟨c.digest.toArray⟩] 31)).alloc (.cells #[.string ⟨#[]⟩] 51)).alloc (.cells #[.bool false] 4)) 5 ⟨c.digest.toArray⟩
  have hbs := bw_bs (((w.alloc (.cells #[.int .u64 c.version, .int .u64 c.codec, .int .u64 c.code, .string ⟨c.digest.toArray⟩] 31)).alloc (.cells #[.string ⟨#[]⟩] 51)).alloc (.cells #[.bool false] 4)) 5 ⟨c.digest.toArray⟩
  have hsz := bw_size (((w.alloc (.cells #[.int .u64 c.version, .int .u64 c.codec, .int .u64 c.code, .string ⟨c.digest.toArray⟩] 31)).alloc (.cells #[.string ⟨#[]⟩] 51)).alloc (.cells #[.bool false] 4)) 5 ⟨c.digest.toArray⟩
  have bD : Below w.heap.size w (((w.alloc (.cells #[.int .u64 c.version, .int .u64 c.codec, .int .u64 c.code, .string ⟨c.digest.toArray⟩] 31)).alloc (.cells #[.string ⟨#[]⟩] 51)).alloc (.cells #[.bool false] 4)) := Old.alloc (Old.alloc (Old.alloc (Below.refl _ _) _) _) _
  have BA : Blk (((w.alloc (.cells #[.int .u64 c.version, .int .u64 c.codec, .int .u64 c.code, .string ⟨c.digest.toArray⟩] 31)).alloc (.cells #[.string ⟨#[]⟩] 51)).alloc (.cells #[.bool false] 4)) w.heap.size 31 #[.int .u64 c.version, .int .u64 c.codec, .int .u64 c.code, .string ⟨c.digest.toArray⟩] := ((Blk.new _ _ _).alloc _).alloc _
  have BX : Blk (((w.alloc (.cells #[.int .u64 c.version, .int .u64 c.codec, .int .u64 c.code, .string ⟨c.digest.toArray⟩] 31)).alloc (.cells #[.string ⟨#[]⟩] 51)).alloc (.cells #[.bool false] 4)) (w.heap.size + 1) 51 #[.string ⟨#[]⟩] := by
    have := (Blk.new (w.alloc (.cells #[.int .u64 c.version, .int .u64 c.codec, .int .u64 c.code, .string ⟨c.digest.toArray⟩] 31)) 51 #[.string ⟨#[]⟩]).alloc (.cells #[.bool false] 4)
    simpa using this
  have BK : Blk (((w.alloc (.cells #[.int .u64 c.version, .int .u64 c.codec, .int .u64 c.code, .string ⟨c.digest.toArray⟩] 31)).alloc (.cells #[.string ⟨#[]⟩] 51)).alloc (.cells #[.bool false] 4)) (w.heap.size + 1 + 1) 4 #[.bool false] := by
    have := Blk.new ((w.alloc (.cells #[.int .u64 c.version, .int .u64 c.codec, .int .u64 c.code, .string ⟨c.digest.toArray⟩] 31)).alloc (.cells #[.string ⟨#[]⟩] 51)) 4 #[.bool false]
    simpa using this
  have hsD : (((w.alloc (.cells #[.int .u64 c.version, .int .u64 c.codec, .int .u64 c.code, .string ⟨c.digest.toArray⟩] 31)).alloc (.cells #[.string ⟨#[]⟩] 51)).alloc (.cells #[.bool false] 4)).heap.size = w.heap.size + 1 + 1 + 1 := by simp
  rw [hsD] at hbs hsz
  have BA1 := BA.old hb
  have BX1 := BX.old hb
  have BK1 := BK.old hb
  have b1 := Old.trans bD hb
  have q2 : (Lib.bytesWorld (((w.alloc (.cells #[.int .u64 c.version, .int .u64 c.codec, .int .u64 c.code, .string ⟨c.digest.toArray⟩] 31)).alloc (.cells #[.string ⟨#[]⟩] 51)).alloc (.cells #[.bool false] 4)) 5 ⟨c.digest.toArray⟩).cell? ⟨w.heap.size, 2, none⟩ = some (.int .u64 c.code) := BA1.cell 2
  clear BA BX BK bD hb hsD
  go_enter_defers Tryz.func21, Tryz.ntmps21
  go_wp2_with fail
  have hcode : (c.code : Int) < 18446744073709551616 ∧ (c.codec : Int) < 18446744073709551616 := by rcases HC.out with ⟨_, h1, h2, _⟩ | ⟨_, h1, h2⟩ <;> omega
  have HH := Lib.hid hcode
  clear hcode
  generalize Lib.bytesWorld (((w.alloc (.cells #[.int .u64 c.version, .int .u64 c.codec, .int .u64 c.code, .string ⟨c.digest.toArray⟩] 31)).alloc (.cells #[.string ⟨#[]⟩] 51)).alloc (.cells #[.bool false] 4)) 5 ⟨c.digest.toArray⟩ = W at *
  refine (mhEncode_any (w.heap.size + 1 + 1 + 1) 0 _ _ c.code c.digest W (by omega) HH.out.1 rfl (by omega) hbs).mono ?_
  rintro _ w2 ⟨rfl, b2, hbs2⟩
  rw [Int.toNat_natCast] at hbs2 ⊢
  rw [hsz] at hbs2 ⊢
  have BA2 := BA1.old b2
  have BX2 := BX1.old b2
  have BK2 := BK1.old b2
  have b02 := Old.trans b1 b2
  have z2 : w.heap.size + 1 + 1 + 1 < w2.heap.size := by have := b2.size; omega
  have p0 : w2.cell? ⟨w.heap.size, 0, none⟩ = some (.int .u64 c.version) := BA2.cell 0
  have p1 : w2.cell? ⟨w.heap.size, 1, none⟩ = some (.int .u64 c.codec) := BA2.cell 1
  have hlw : (mhWr c.code c.digest).length ≤ 1000000 := by
    have h1 := Lib.uvarint_length64 (x := c.code) (by have := HH.out.1; omega)
    have h2 := Lib.uvarint_length64 (x := c.digest.length) (by omega)
    simp only [mhWr, List.length_append]; omega
  have hgl : w.heap.size + 1 + 1 + 1 + 1 < w2.heap.size := hbs2.lt (by
    intro h
    have h1 := congrArg List.length h
    have h2 := Lib.uvarint_pos c.code
    simp only [mhWr, List.length_append, List.length_nil] at h1
    omega)
  clear BA1 BX1 BK1 b1 b2 q2 hsz hbs hcv
  obtain ⟨m, hm⟩ : ∃ m, mhWr c.code c.digest = m := ⟨_, rfl⟩
  rw [hm] at hlw hbs2 ⊢
  have HM := Lib.hid hm
  clear hm
  by_cases h0 : c.version = 0
  · obtain ⟨_, hd32, hcodec, hcd⟩ := wr_v0 HC.out h0
    have hv0 : ((c.version : Int) == 0) = true := by simp [h0]
    have hk : ((c.codec : Int) == 112) = true := by simp [hcodec]
    have hmr : mhRd m = some (18, c.digest, m.length) := by
      have := mhRd_mhWr c.code c.digest [] (by omega) (by omega)
      rw [List.append_nil, HM.out, hcd] at this
      exact this
    have hw : m = c.wr := by rw [CidL.wr, if_pos h0, HM.out]
    have H0 := Lib.hid (And.intro h0 (And.intro hmr (And.intro hd32 (And.intro hw (And.intro (e0.old b02) (And.intro (e1.old b02) (And.intro (e2.old b02) (e3.old b02))))))))
    have x3 : w2.cell? ⟨w.heap.size + 1, 0, none⟩ = some (.string ⟨#[]⟩) := BX2.cell 0
    have y3 : w2.cell? ⟨w.heap.size + 1 + 1, 0, none⟩ = some (.bool false) := BK2.cell 0
    have fx := BX2.frozen 0
    have fy := BK2.frozen 0
    have hnew := fun W (hW : Below w2.heap.size w2 W) => newV0_any (w.heap.size + 1 + 1 + 1 + 1) 0 m.length m.length m c.digest W rfl (by omega) (Nat.le_refl _) (hbs2.old hW) (Nat.lt_of_lt_of_le hgl hW.size) H0.out.2.1 H0.out.2.2.1 (H0.out.2.2.2.2.1.old hW) (H0.out.2.2.2.2.2.1.old hW) (H0.out.2.2.2.2.2.2.1.old hW) (H0.out.2.2.2.2.2.2.2.old hW)
    have HNW := Lib.hid hnew
    have HF := Lib.hid (show ∀ W, Below w2.heap.size w2 W → W.cell? ⟨w.heap.size, 1, none⟩ = some (.int .u64 c.codec) ∧ W.cell? ⟨w.heap.size + 1, 0, none⟩ = some (.string ⟨#[]⟩) ∧ W.cell? ⟨w.heap.size + 1 + 1, 0, none⟩ = some (.bool false) ∧ W.frozen? ⟨w.heap.size + 1, 0, none⟩ = false ∧ W.frozen? ⟨w.heap.size + 1 + 1, 0, none⟩ = false from
      fun W hW => ⟨(BA2.old hW).cell 1, (BX2.old hW).cell 0, (BK2.old hW).cell 0, (BX2.old hW).frozen 0, (BK2.old hW).frozen 0⟩)
    clear h0 hmr hd32 hw hcodec hcd e0 e1 e2 e3 hnew hbs2 BA2
    go_wp2_with fail
    refine wp_region_noPanic ?_
    go_region_with (go_at_call 36; refine (HNW.out _ (Below.refl _ _).drew).mono ?_; rintro _ w3 ⟨rfl, b3⟩; obtain ⟨p3, x4, y4, fx4, fy4⟩ := HF.out w3 (((Below.refl w2.heap.size w2).drew).trans b3))
    all_goals refine NoPanic.normal ?_
    all_goals go_wp2_with fail
    all_goals have b23 : Below w2.heap.size w2 w3 := ((Below.refl w2.heap.size w2).drew).trans b3
    all_goals have BX3 := BX2.old b23
    all_goals have BK3 := BK2.old b23
    all_goals have b03 := Old.trans b02 b23
    all_goals rw [← H0.out.2.2.2.1]
    all_goals refine leaves_cons (f := 34) (args := #[.pointer (some ⟨w.heap.size + 1, 0, none⟩), .pointer (some ⟨w.heap.size + 1 + 1, 0, none⟩)]) (by simp) (by simp [go_sem]) ?_
    all_goals refine (cidIn_idle _ _ _).mono ?_
    all_goals rintro e u' w'' ⟨rfl, rfl, rfl⟩
    all_goals have B0 := BX3.set_ 0 (.string ⟨m.toArray⟩)
    all_goals have BK4 := (BK3.far (p := ⟨w.heap.size + 1, 0, none⟩) (by simp) (.string ⟨m.toArray⟩)).set_ 0 (.bool true)
    all_goals have r1 : (w3.setCell ⟨w.heap.size + 1, 0, none⟩ (.string ⟨m.toArray⟩)).cell? ⟨w.heap.size + 1, 0, none⟩ = some (.string ⟨m.toArray⟩) := B0.cell 0
    all_goals have r2 : ((w3.setCell ⟨w.heap.size + 1, 0, none⟩ (.string ⟨m.toArray⟩)).setCell ⟨w.heap.size + 1 + 1, 0, none⟩ (.bool true)).cell? ⟨w.heap.size + 1 + 1, 0, none⟩ = some (.bool true) := BK4.cell 0
    all_goals have b04 : Below w.heap.size w ((w3.setCell ⟨w.heap.size + 1, 0, none⟩ (.string ⟨m.toArray⟩)).setCell ⟨w.heap.size + 1 + 1, 0, none⟩ (.bool true)) := (b03.setCell (p := ⟨w.heap.size + 1, 0, none⟩) (Nat.le_succ _) _).setCell (p := ⟨w.heap.size + 1 + 1, 0, none⟩) (by show w.heap.size ≤ w.heap.size + 1 + 1; omega) _
    all_goals simp [Leaves, settle, results, Tryz.results21, go_sem, r1, r2]
    all_goals exact b04
  · have hv0 : ((c.version : Int) == 0) = false := by simp; omega
    have hv1 : ((c.version : Int) == 1) = true := by rcases HC.out with ⟨h, _⟩ | ⟨h, _⟩ <;> simp <;> omega
    have H0 := Lib.hid h0
    clear h0
    go_wp2_with fail
    refine (newCidV1_any (w.heap.size + 1 + 1 + 1 + 1) 0 m.length m.length c.codec m w2 (by omega) HH.out.2 rfl hbs2 hlw hgl).mono ?_
    rw [Int.toNat_natCast]
    rintro _ w3 ⟨rfl, b3⟩
    have BX3 := BX2.old b3
    have BK3 := BK2.old b3
    have b03 := Old.trans b02 b3
    have x3 : w3.cell? ⟨w.heap.size + 1, 0, none⟩ = some (.string ⟨#[]⟩) := BX3.cell 0
    have y3 : w3.cell? ⟨w.heap.size + 1 + 1, 0, none⟩ = some (.bool false) := BK3.cell 0
    have fx := BX3.frozen 0
    have fy := BK3.frozen 0
    have hw : Lib.uvarint 1 ++ Lib.uvarint c.codec ++ m = c.wr := by rw [CidL.wr, if_neg H0.out, HM.out]
    rw [hw]
    clear hw p0 p1 BX2 BK2 BA2 b02 b3 hbs2
    go_wp2_with fail
    refine leaves_cons (f := 34) (args := #[.pointer (some ⟨w.heap.size + 1, 0, none⟩), .pointer (some ⟨w.heap.size + 1 + 1, 0, none⟩)]) (by simp) (by simp [go_sem]) ?_
    refine (cidIn_idle _ _ _).mono ?_
    rintro e u' w'' ⟨rfl, rfl, rfl⟩
    have B0 := BX3.set_ 0 (.string ⟨c.wr.toArray⟩)
    have BK4 := (BK3.far (p := ⟨w.heap.size + 1, 0, none⟩) (by simp) (.string ⟨c.wr.toArray⟩)).set_ 0 (.bool true)
    have r1 : (w3.setCell ⟨w.heap.size + 1, 0, none⟩ (.string ⟨c.wr.toArray⟩)).cell? ⟨w.heap.size + 1, 0, none⟩ = some (.string ⟨c.wr.toArray⟩) := B0.cell 0
    have r2 : ((w3.setCell ⟨w.heap.size + 1, 0, none⟩ (.string ⟨c.wr.toArray⟩)).setCell ⟨w.heap.size + 1 + 1, 0, none⟩ (.bool true)).cell? ⟨w.heap.size + 1 + 1, 0, none⟩ = some (.bool true) := BK4.cell 0
    have b04 : Below w.heap.size w ((w3.setCell ⟨w.heap.size + 1, 0, none⟩ (.string ⟨c.wr.toArray⟩)).setCell ⟨w.heap.size + 1 + 1, 0, none⟩ (.bool true)) := (b03.setCell (p := ⟨w.heap.size + 1, 0, none⟩) (Nat.le_succ _) _).setCell (p := ⟨w.heap.size + 1 + 1, 0, none⟩) (by show w.heap.size ≤ w.heap.size + 1 + 1; omega) _
    simp [Leaves, settle, results, Tryz.results21, go_sem, r1, r2]
    exact b04

end Go.Proofs.YtcljffldbnoljaaGreatDoor

namespace Go.Proofs.YtcljffldbnoljaaGreatDoor
open Go.RowKit

theorem bs_from {w : World} {g o : Nat} {l : List UInt8} (h : Bs w g o l) (k : Nat) : Bs w g (o + k) (l.drop k) := by
  intro j hj
  simp only [List.length_drop] at hj
  rw [List.getElem_drop, show o + k + j = o + (k + j) from by omega]
  exact h (k + j) (by omega)
set_option maxRecDepth 100000 in
set_option maxHeartbeats 2000000 in
theorem cidHash_any (c : CidL) (l : List UInt8) (w : World) (hl : l = c.wr) (hc : c.tidy) (hd : c.digest.length ≤ 4096) (hm : l.length ≤ 1000000) (hp : 0 < l.length)
    (e0 : Er w 3) (e1 : Er w 4) (e2 : Er w 5) :
    Calls Tryz.prog 57 #[.agg #[.string ⟨l.toArray⟩]] w fun e w' => ∃ g o n cc, e = .returned (.slice (some ⟨g, o, none⟩) n cc) ∧ n = (mhWr c.code c.digest).length ∧ n ≤ cc ∧ g < w'.heap.size ∧ Bs w' g o (mhWr c.code c.digest) ∧ Below w.heap.size w w' := by
  have b0 : Below w.heap.size w (w.alloc (.cells #[.string ⟨l.toArray⟩] 51)) := Old.alloc (Below.refl _ _) _
  have BA := Blk.new w 51 #[.string ⟨l.toArray⟩]
  have HL := Lib.hid (And.intro hl hc)
  clear hl hc
  go_enter Tryz.func57, Tryz.ntmps57
  go_wp2_with fail
  generalize w.alloc (.cells #[.string ⟨l.toArray⟩] 51) = W at *
  refine (cidBytes_any l W hp (by omega)).mono ?_
  rintro e w1 ⟨g, cc, rfl, hg1, hg2, hcc, hbs, b1⟩
  have b01 := Old.trans b0 b1
  have BA1 := BA.old b1
  have a0 : w1.cell? ⟨w.heap.size, 0, none⟩ = some (.string ⟨l.toArray⟩) := BA1.cell 0
  clear b0 b1 BA
  go_wp2_with fail
  refine (version_any c l w1 HL.out.1 HL.out.2).mono ?_
  rintro e w2 ⟨rfl, b2⟩
  have b02 := Old.trans b01 b2
  have hbs2 := hbs.old b2
  have hg3 : g < w2.heap.size := Nat.lt_of_lt_of_le hg2 b2.size
  clear b01 b2 hbs BA1 a0
  by_cases h0 : c.version = 0
  · have hv : ((c.version : Int) == 0) = true := by simp [h0]
    have hw : l = mhWr c.code c.digest := by rw [HL.out.1, CidL.wr, if_pos h0]
    have HW := Lib.hid hw
    clear h0 hw
    go_wp2_with fail
    go_ret
    rw [← HW.out]
    exact ⟨g, 0, _, cc, rfl, rfl, hcc, hg3, hbs2, b02⟩
  · have hv : ((c.version : Int) == 0) = false := by simp; omega
    obtain ⟨n2, n3, n4, r1, r2, r3, r4, hlen, hdr, p2, p3, p4⟩ := wr_reads HL.out.2 h0 (by omega)
    rw [← HL.out.1] at r1 r2 hlen hdr
    have HR := Lib.hid (And.intro r1 (And.intro r2 hdr))
    clear r1 r2 r3 r4 hdr h0
    go_wp2_with fail
    refine (fromUvarint_any g 0 cc l w2 (by omega) hbs2 (e0.old b02) (e1.old b02) (e2.old b02)).mono ?_
    rw [HR.out.1]
    rintro e w3 ⟨⟨k, rfl⟩, rfl⟩
    go_wp2_with fail
    have hbs3 := (bs_from hbs2 1).drewN k
    rw [Nat.zero_add] at hbs3
    have hf := fromUvarint_any g 1 (cc - 1) (l.drop 1) (w2.drewN k) (by rw [List.length_drop]; omega) hbs3 (e0.old (below_drewN b02 k)) (e1.old (below_drewN b02 k)) (e2.old (below_drewN b02 k))
    rw [List.length_drop, HR.out.2.1] at hf
    refine hf.mono ?_
    clear hf
    rintro e w3 ⟨⟨k2, rfl⟩, rfl⟩
    go_wp2_with fail
    go_ret
    have hbs4 := bs_from hbs2 (1 + n2)
    rw [HR.out.2.2, Nat.zero_add] at hbs4
    have hln : l.length - (1 + n2) = (mhWr c.code c.digest).length := by rw [← HR.out.2.2, List.length_drop]
    exact ⟨g, 1 + n2, _, _, rfl, hln, by omega, hg3, hbs4.drewN _, below_drewN b02 _⟩

end Go.Proofs.YtcljffldbnoljaaGreatDoor

namespace Go.Proofs.YtcljffldbnoljaaGreatDoor
open Go.RowKit

/-- The errors of reading identifiers lie somewhere. -/
structure E4 (w : World) : Prop where
  e0 : Er w 3
  e1 : Er w 4
  e2 : Er w 5
  e3 : Er w 7
theorem E4.old {w w' : World} (h : E4 w) (b : Below w.heap.size w w') : E4 w' := ⟨h.e0.old b, h.e1.old b, h.e2.old b, h.e3.old b⟩

theorem mhWr_len {c : CidL} (hc : c.tidy) (hd : c.digest.length ≤ 4096) : (mhWr c.code c.digest).length ≤ 1000000 ∧ mhRd (mhWr c.code c.digest) = some (c.code, c.digest, (mhWr c.code c.digest).length) := by
  have hcd : c.code < 9223372036854775808 := by rcases hc with ⟨_, _, h, _⟩ | ⟨_, _, h⟩ <;> omega
  constructor
  · have h1 := Lib.uvarint_length64 (x := c.code) (by omega)
    have h2 := Lib.uvarint_length64 (x := c.digest.length) (by omega)
    simp only [mhWr, List.length_append]; omega
  · have := mhRd_mhWr c.code c.digest [] hcd (by omega)
    rwa [List.append_nil] at this
theorem wr_len3 {c : CidL} (hc : c.tidy) (hd : c.digest.length ≤ 4096) : c.wr.length ≤ 5000 ∧ 0 < c.wr.length := by
  have h1 := Lib.uvarint_length64 (x := c.code) (by rcases hc with ⟨_, _, h, _⟩ | ⟨_, _, h⟩ <;> omega)
  have h2 := Lib.uvarint_length64 (x := c.digest.length) (by omega)
  have h3 := Lib.uvarint_length64 (x := c.codec) (by rcases hc with ⟨_, h, _⟩ | ⟨_, h, _⟩ <;> omega)
  have h4 := Lib.uvarint_length64 (x := 1) (by omega)
  have h5 := Lib.uvarint_pos c.code
  unfold CidL.wr
  split
  · simp only [mhWr, List.length_append]; omega
  · simp only [mhWr, List.length_append]; omega

/-- Bytes do not lie in a block that holds no byte. -/
theorem bs_ne {w : World} {g o b : Nat} {d : List UInt8} {t : TypeId} {cs : Array Value} (h : Bs w g o d) (hb : Blk w b t cs) (hc : ∀ (i : Nat) (v : Int), cs[i]? = some (.int .u8 v) → False) : d = [] ∨ g ≠ b := by
  cases d with
  | nil => exact .inl rfl
  | cons a t =>
    refine .inr fun e => ?_
    have h0 := h 0 (by simp)
    rw [Nat.add_zero, e, hb.cell] at h0
    exact hc _ _ h0
theorem no_byte3 (i : Nat) (v : Int) (h : (#[.slice none 0 0, .string ⟨#[]⟩, .int .u64 0] : Array Value)[i]? = some (.int .u8 v)) : False := by
  match i with
  | 0 => simp at h
  | 1 => simp at h
  | 2 => simp at h
  | n + 3 => simp at h

/-- What a record made of an identifier comes to. -/
def NrPost (c : CidL) (off : Nat) (w : World) (e : Ending) (w' : World) : Prop :=
  ∃ x : Rec, e = .returned x.agg ∧ x.d = c.digest ∧ x.off = off ∧ Bs w' x.g x.o x.d ∧ x.d.length ≤ x.c ∧ Below w.heap.size w w'

set_option maxRecDepth 100000 in
set_option maxHeartbeats 4000000 in
theorem newRecord_any (c : CidL) (off : Nat) (w : World) (hc : c.tidy) (hd : c.digest.length ≤ 4096) (E : E4 w) :
    Calls Tryz.prog 39 #[.agg #[.string ⟨c.wr.toArray⟩], .int .u64 off] w (NrPost c off w) := by
  have hw := wr_len3 hc hd
  have hm := mhWr_len hc hd
  obtain ⟨l, hl⟩ : ∃ l, c.wr = l := ⟨_, rfl⟩
  rw [hl] at hw
  rw [hl]
  obtain ⟨W, hW⟩ : ∃ W, (w.alloc (.cells #[.string ⟨l.toArray⟩] 51)).alloc (.cells #[.slice none 0 0, .string ⟨#[]⟩, .int .u64 0] 67) = W := ⟨_, rfl⟩
  have bW : Below w.heap.size w W := by rw [← hW]; exact Old.alloc (Old.alloc (Below.refl _ _) _) _
  have AW : Blk W w.heap.size 51 #[.string ⟨l.toArray⟩] := by rw [← hW]; exact (Blk.new _ _ _).alloc _
  have RW : Blk W (w.heap.size + 1) 67 #[.slice none 0 0, .string ⟨#[]⟩, .int .u64 0] := by
    rw [← hW]
    have := Blk.new (w.alloc (.cells #[.string ⟨l.toArray⟩] 51)) 67 #[.slice none 0 0, .string ⟨#[]⟩, .int .u64 0]
    simpa using this
  have a0 : W.cell? ⟨w.heap.size, 0, none⟩ = some (.string ⟨l.toArray⟩) := AW.cell 0
  have EW := E.old bW
  have HH := Lib.hid (cidHash_any c l W hl.symm hc hd (by omega) hw.2 EW.e0 EW.e1 EW.e2)
  have HM := Lib.hid (And.intro hm E)
  have HL := Lib.hid hl
  clear hc hd hw hm hl E EW
  go_enter Tryz.func39, Tryz.ntmps39
  go_wp2_with fail
  clear hW a0
  refine HH.out.mono ?_
  rintro e w1 ⟨g, o, n, cc, rfl, hn, hncc, hg, hbs, b1⟩
  have b01 := Old.trans bW b1
  have A1 := AW.old b1
  have R1 := RW.old b1
  have E1 := HM.out.2.old b01
  have hdc := mhDecode_any g o n cc (mhWr c.code c.digest) w1 hn (by have := HM.out.1.1; omega) (by omega) hbs hg E1.e0 E1.e1 E1.e2 E1.e3
  rw [HM.out.1.2] at hdc
  have HD := Lib.hid hdc
  clear hdc hbs b1 bW AW RW HH hn hncc E1
  go_wp2_with fail
  refine HD.out.mono ?_
  rintro e w2 ⟨b2, h2, _⟩
  obtain ⟨b, o2, c2, rfl, BD, hdl, hb2⟩ := h2 rfl
  clear h2 HD
  have b02 := Old.trans b01 b2
  have A2 := A1.old b2
  have R2 := R1.old b2
  have z2 := R2.lt
  unfold dmCells at BD
  have d3 : w2.cell? ⟨b, 3, none⟩ = some (.slice (some ⟨g, o2, none⟩) c.digest.length c2) := BD.cell 3
  have a0 : w2.cell? ⟨w.heap.size, 0, none⟩ = some (.string ⟨l.toArray⟩) := A2.cell 0
  have f0 := R2.frozen 0
  have f1 := R2.frozen 1
  have f2 := R2.frozen 2
  have r0 : w2.cell? ⟨w.heap.size + 1, 0, none⟩ = some (.slice none 0 0) := R2.cell 0
  have r1 : w2.cell? ⟨w.heap.size + 1, 1, none⟩ = some (.string ⟨#[]⟩) := R2.cell 1
  have r2 : w2.cell? ⟨w.heap.size + 1, 2, none⟩ = some (.int .u64 0) := R2.cell 2
  have H := Lib.hid (And.intro R2 (And.intro b02 (And.intro hb2 hdl)))
  clear R2 b02 hb2 hdl BD A2 b01 A1 R1 b2
  go_wp2_with fail
  go_region
  all_goals go_wp2_with fail
  all_goals refine bodyPost_ret (ret_cell rfl rfl ((H.out.1.row [.slice (some ⟨g, o2, none⟩) c.digest.length c2, .string ⟨l.toArray⟩, .int .u64 off] rfl).drew) Tryz.underlying67 (by kernel_rfl)) rfl ?_
  all_goals refine ⟨⟨g, o2, c2, c.digest, l, off⟩, rfl, rfl, rfl, ?_, H.out.2.2.2, RowKit.Below.drew (below_setCells (Nat.le_succ _) [.slice (some ⟨g, o2, none⟩) c.digest.length c2, .string ⟨l.toArray⟩, .int .u64 off] 0 _ H.out.2.1)⟩
  all_goals
    have hne := bs_ne H.out.2.2.1 H.out.1 no_byte3
    rcases hne with hne | hne
    · intro j hj
      simp only at hj
      rw [hne] at hj
      exact absurd hj (Nat.not_lt_zero _)
    · exact (H.out.2.2.1.kp (Kp.of_setCells (l := [w.heap.size + 1]) (.inl (by simp)) [.slice (some ⟨g, o2, none⟩) c.digest.length c2, .string ⟨l.toArray⟩, .int .u64 off] 0 _ (Kp.refl _ _)) (by simpa using hne)).drewN 1
end Go.Proofs.YtcljffldbnoljaaGreatDoor

namespace Go.Proofs.YtcljffldbnoljaaGreatDoor
open Go.RowKit

set_option maxRecDepth 100000 in
theorem newIndex_any (w : World) : Calls Tryz.prog 20 #[] w fun e w' => e = .returned (.pointer (some ⟨w.heap.size, 0, none⟩)) ∧ Blk w' w.heap.size 60 #[.int .i64 0, .pointer none] ∧ Below w.heap.size w w' := by
  go_enter Tryz.func20, Tryz.ntmps20
  go_wp2_with fail
  go_ret
  exact ⟨rfl, Blk.new _ _ _, Old.alloc (Below.refl _ _) _⟩

/-- What an insertion into the index comes to. -/
def IiPost (ib : Nat) (n : Int) (s : Tre) (c : CidL) (off : Nat) (w : World) (e : Ending) (w' : World) : Prop :=
  e = .returned (.tuple #[]) ∧ ∃ (x : Rec) (s' : Tre), x.d = c.digest ∧ x.off = off ∧ Blk w' ib 60 #[.int .i64 (n + 1), .pointer s'.adr] ∧ Tr w' s' ∧ s'.ino.Perm (x :: s.ino) ∧ (Ord s.ino → Ord s'.ino) ∧ s'.bs.Nodup ∧ ib ∉ s'.bs ∧ (∀ i ∈ s'.bs, i ∈ s.bs ∨ w.heap.size ≤ i) ∧ Kp (ib :: s.bs) w w'

set_option maxRecDepth 100000 in
set_option maxHeartbeats 4000000 in
theorem iiInsert_any (ib : Nat) (n : Int) (s : Tre) (c : CidL) (off : Nat) (w : World) (hb : Blk w ib 60 #[.int .i64 n, .pointer s.adr]) (hn0 : 0 ≤ n) (hn : n ≤ 1000000) (h : Tr w s) (nd : s.bs.Nodup) (hi : ib ∉ s.bs) (hc : c.tidy) (hd : c.digest.length ≤ 200) (hd0 : c.digest ≠ []) (E : E4 w) :
    Calls Tryz.prog 22 #[.pointer (some ⟨ib, 0, none⟩), .agg #[.string ⟨c.wr.toArray⟩], .int .u64 off] w (IiPost ib n s c off w) := by
  obtain ⟨l, hl⟩ : ∃ l, c.wr = l := ⟨_, rfl⟩
  have hnr := fun W (hW : Below w.heap.size w W) => newRecord_any c off W hc (by omega) (E.old hW)
  rw [hl] at hnr
  rw [hl]
  obtain ⟨W, hW⟩ : ∃ W, w.alloc (.cells #[.string ⟨l.toArray⟩] 51) = W := ⟨_, rfl⟩
  have bW : Below w.heap.size w W := by rw [← hW]; exact Old.alloc (Below.refl _ _) _
  have AW : Blk W w.heap.size 51 #[.string ⟨l.toArray⟩] := by rw [← hW]; exact Blk.new _ _ _
  have a0 : W.cell? ⟨w.heap.size, 0, none⟩ = some (.string ⟨l.toArray⟩) := AW.cell 0
  have HN := Lib.hid (hnr W.drew (RowKit.Below.drew bW))
  have H := Lib.hid (And.intro hb (And.intro hn0 (And.intro hn (And.intro h (And.intro nd (And.intro hi (And.intro hd (And.intro hd0 bW))))))))
  clear hnr hb hn0 hn h nd hi hc hd hd0 E hl bW AW
  go_enter Tryz.func22, Tryz.ntmps22
  go_wp2_with fail
  go_region_with (first | (go_at_call 39; refine HN.out.mono ?_; rintro _ w1 ⟨x, rfl, hxd, hxo, hxb, hxc, b1⟩; have HX := Lib.hid (And.intro hxd (And.intro hxo (And.intro hxb (And.intro hxc b1)))); clear hxd hxo hxb hxc b1) | (go_at_call 38; have b01 := Old.trans (RowKit.Below.drew H.out.2.2.2.2.2.2.2.2) HX.out.2.2.2.2; refine (insertTop_any ib n s x w1 (H.out.1.old b01) H.out.2.1 H.out.2.2.1 (Tr.old b01 H.out.2.2.2.1) H.out.2.2.2.2.1 H.out.2.2.2.2.2.1 ⟨HX.out.2.2.1, by rw [HX.out.1]; exact H.out.2.2.2.2.2.2.2.1, HX.out.2.2.2.1, by rw [HX.out.1]; have := H.out.2.2.2.2.2.2.1; omega⟩).mono ?_; rintro _ w2 ⟨rfl, s', hB, hT, hp, ho, hnd, hib, hbs, hk⟩; have HF := Lib.hid (And.intro hB (And.intro hT (And.intro hp (And.intro ho (And.intro hnd (And.intro hib (And.intro hbs (And.intro hk b01)))))))); clear hB hT hp ho hnd hib hbs hk b01))
  all_goals go_wp2_with fail
  all_goals go_end0
  all_goals
    obtain ⟨hB, hT, hp, ho, hnd, hib, hbs, hk, b01⟩ := HF.out
    exact ⟨rfl, x, s', HX.out.1, HX.out.2.1, hB, hT, hp, ho, hnd, hib, fun i hi => (hbs i hi).imp id (fun h => Nat.le_trans b01.size h), (Kp.of_below b01 _).trans hk⟩

theorem GetPost.val {s : Tre} {x : Rec} {w : World} {e : Ending} {w' : World} (h : GetPost s x w e w') : ∃ v, e = .returned v ∧ Below w.heap.size w w' ∧ ((∃ y ∈ s.ino, y.d = x.d ∧ v = y.val) ∨ ((∀ y ∈ s.ino, y.d ≠ x.d) ∧ v = .nilIface)) := by
  obtain ⟨hb, ⟨y, hy, hd, rfl⟩ | ⟨hn, rfl⟩⟩ := h
  · exact ⟨_, rfl, hb, .inl ⟨y, hy, hd, rfl⟩⟩
  · exact ⟨_, rfl, hb, .inr ⟨hn, rfl⟩⟩

/-- What looking up a record comes to. -/
def GrcPost (s : Tre) (d : List UInt8) (aN : Addr) (w : World) (e : Ending) (w' : World) : Prop :=
  Below w.heap.size w w' ∧ ((∃ y ∈ s.ino, y.d = d ∧ e = .returned (.tuple #[.agg #[.string ⟨y.id.toArray⟩, .int .u64 (y.off : Nat)], .nilIface])) ∨
    ((∀ y ∈ s.ino, y.d ≠ d) ∧ e = .returned (.tuple #[.agg #[.string ⟨#[]⟩, .int .u64 0], .iface 136 (.pointer (some aN))])))

end Go.Proofs.YtcljffldbnoljaaGreatDoor
