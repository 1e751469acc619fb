/-
  The walks of cid.NewCidV0 (of a multihash that fits), impl.cidIn (of an identifier that is tidy), impl.CdBytes. Conditions: as each contract says.
-/
import Derived.Test.YtdfhfaeeejijcaaDoorCdN
import Derived.Recover
import Derived.Deep.RegionWith
import Derived.Deep.RegionHeld3
namespace Go.Proofs.YtdfhfaeeejijcaaDoor
open Go.RowKit

set_option maxRecDepth 100000 in
set_option maxHeartbeats 2000000 in
theorem tryV0_any (g o n c : Nat) (m d : List UInt8) (w : World) (hn : n = m.length) (hl : m.length ≤ 2147483647) (hlc : m.length ≤ c) (hc : Bs w g o m) (hg : g < w.heap.size) (hr : mhRd m = some (18, d, m.length)) (hd : d.length = 32)
    (e0 : Er w 7) (e1 : Er w 8) (e2 : Er w 9) (e3 : Er w 13) :
    Calls Tryd.prog 51 #[.slice (some ⟨g, o, none⟩) n c] w fun e w' => e = .returned (.tuple #[.agg #[.string ⟨m.toArray⟩], .nilIface]) ∧ Below w.heap.size w w' := by
  have bA : Below w.heap.size w (w.alloc (.cells #[.string ⟨#[]⟩] 58)) := Old.alloc (Below.refl _ _) _
  have BA := Blk.new w 58 #[.string ⟨#[]⟩]
  have HN := Lib.hid hn
  have HR := Lib.hid (And.intro hr hd)
  clear hn hr hd
  go_enter Tryd.func51, Tryd.ntmps51
  go_wp2_with fail
  generalize w.alloc (.cells #[.string ⟨#[]⟩] 58) = W at *
  have zW := BA.lt
  refine (mhDecode_any g o n c m W HN.out hl hlc (hc.old bA) (Nat.lt_of_lt_of_le hg bA.size) (e0.old bA) (e1.old bA) (e2.old bA) (e3.old bA)).mono ?_
  rw [HR.out.1]
  rintro e w1 ⟨b1, hy, _⟩
  obtain ⟨b, o2, cc, rfl, B1, _, _⟩ := hy rfl
  clear hy
  have b01 := Old.trans bA b1
  have BX := BA.old b1
  have q0 : w1.cell? ⟨b, 0, none⟩ = some (.int .u64 18) := B1.cell 0
  have q2 : w1.cell? ⟨b, 2, none⟩ = some (.int .i64 32) := (B1.cell 2).trans (by show some (Value.int .i64 (d.length : Int)) = _; rw [HR.out.2]; rfl)
  have hcv := conv_str (P := Tryd.prog) Tryd.underlying120 Tryd.underlying5 Tryd.underlying9 (c := c) (hc.old b01) HN.out
  have qX : w1.cell? ⟨w.heap.size, 0, none⟩ = some (.string ⟨#[]⟩) := BX.cell 0
  have fX := BX.frozen 0
  clear B1 BA b1 hc
  go_wp2_with fail
  refine bodyPost_ret (ret_cell_tmp rfl rfl (BX.set_ 0 (.string ⟨m.toArray⟩)) Tryd.underlying58 (by kernel_rfl)) rfl ?_
  exact ⟨rfl, b01.setCell (p := ⟨w.heap.size, 0, none⟩) (Nat.le_refl _) _⟩

set_option maxRecDepth 100000 in
set_option maxHeartbeats 2000000 in
theorem newV0_any (g o n c : Nat) (m d : List UInt8) (w : World) (hn : n = m.length) (hl : m.length ≤ 2147483647) (hlc : m.length ≤ c) (hc : Bs w g o m) (hg : g < w.heap.size) (hr : mhRd m = some (18, d, m.length)) (hd : d.length = 32)
    (e0 : Er w 7) (e1 : Er w 8) (e2 : Er w 9) (e3 : Er w 13) :
    Calls Tryd.prog 38 #[.slice (some ⟨g, o, none⟩) n c] w fun e w' => e = .returned (.agg #[.string ⟨m.toArray⟩]) ∧ Below w.heap.size w w' := by
  have bA : Below w.heap.size w (w.alloc (.cells #[.string ⟨#[]⟩] 58)) := Old.alloc (Below.refl _ _) _
  have BA := Blk.new w 58 #[.string ⟨#[]⟩]
  have HN := Lib.hid hn
  have HR := Lib.hid (And.intro hr hd)
  clear hn hr hd
  go_enter Tryd.func38, Tryd.ntmps38
  go_wp2_with fail
  generalize w.alloc (.cells #[.string ⟨#[]⟩] 58) = W at *
  have zW := BA.lt
  refine (tryV0_any g o n c m d W HN.out hl hlc (hc.old bA) (Nat.lt_of_lt_of_le hg bA.size) HR.out.1 HR.out.2 (e0.old bA) (e1.old bA) (e2.old bA) (e3.old bA)).mono ?_
  rintro e w1 ⟨rfl, b1⟩
  have b01 := Old.trans bA b1
  have BX := BA.old b1
  have qX : w1.cell? ⟨w.heap.size, 0, none⟩ = some (.string ⟨#[]⟩) := BX.cell 0
  have fX := BX.frozen 0
  have z1 : w.heap.size < w1.heap.size := BX.lt
  clear BA b1 hc bA
  go_wp2_with fail
  refine bodyPost_ret (ret_cell rfl rfl ((BX.set_ 0 (.string ⟨m.toArray⟩)).alloc _) Tryd.underlying58 (by kernel_rfl)) rfl ?_
  exact ⟨rfl, Old.alloc (b01.setCell (p := ⟨w.heap.size, 0, none⟩) (Nat.le_refl _) _) _⟩

theorem cidIn_idle (p q : Addr) (w : World) :
    CallsD Tryd.prog 36 #[.pointer (some p), .pointer (some q)] .returning w fun e u' w' => e = .returned (.tuple #[]) ∧ u' = .returning ∧ w' = w := by
  refine callsD_of_wpS Tryd.func36 rfl fun c₀ cs hu => ?_
  apply wpS_seq
  apply wpS_region
  simp [wpOpsS, go_sem, recoverD, hu, Tryd.ntmps36, Exit.thenS]
  refine wpS_cond (t := false) (by simp [Act.eval, Array.replicate]) ?_
  simp only [Bool.false_eq_true, if_false]
  refine wpS_of_wp (wp_skip ?_)
  cases c₀
  simp_all [bodyPostS, results, Tryd.results36]

set_option maxRecDepth 100000 in
set_option maxHeartbeats 2000000 in
theorem cidIn_any (c : CidL) (w : World) (hc : c.tidy) (hd : c.digest.length ≤ 4096)
    (e0 : Er w 7) (e1 : Er w 8) (e2 : Er w 9) (e3 : Er w 13) :
    Calls Tryd.prog 23 #[.agg #[.int .u64 c.version, .int .u64 c.codec, .int .u64 c.code, .string ⟨c.digest.toArray⟩]] w fun e w' => e = .returned (.tuple #[.agg #[.string ⟨c.wr.toArray⟩], .bool true]) ∧ Below w.heap.size w w' := by
  have hcv := fun W => Lib.run_convert_string_bytes (P := Tryd.prog) W 9 24 5 ⟨c.digest.toArray⟩ Tryd.underlying9 Tryd.underlying24 Tryd.underlying5
  have HC := Lib.hid hc
  clear hc
  have hb := bw_below (((w.alloc (.cells #[.int .u64 c.version, .int .u64 c.codec, .int .u64 c.code, .string ⟨c.digest.toArray⟩] 26)).alloc (.cells #[.string ⟨#[]⟩] 58)).alloc (.cells #[.bool false] 4)) 5 ⟨c.digest.toArray⟩
  have hbs := bw_bs (((w.alloc (.cells #[.int .u64 c.version, .int .u64 c.codec, .int .u64 c.code, .string ⟨c.digest.toArray⟩] 26)).alloc (.cells #[.string ⟨#[]⟩] 58)).alloc (.cells #[.bool false] 4)) 5 ⟨c.digest.toArray⟩
  have hsz := bw_size (((w.alloc (.cells #[.int .u64 c.version, .int .u64 c.codec, .int .u64 c.code, .string ⟨c.digest.toArray⟩] 26)).alloc (.cells #[.string ⟨#[]⟩] 58)).alloc (.cells #[.bool false] 4)) 5 ⟨c.digest.toArray⟩
  have bD : Below w.heap.size w (((w.alloc (.cells #[.int .u64 c.version, .int .u64 c.codec, .int .u64 c.code, .string ⟨c.digest.toArray⟩] 26)).alloc (.cells #[.string ⟨#[]⟩] 58)).alloc (.cells #[.bool false] 4)) := Old.alloc (Old.alloc (Old.alloc (Below.refl _ _) _) _) _
  have BA : Blk (((w.alloc (.cells #[.int .u64 c.version, .int .u64 c.codec, .int .u64 c.code, .string ⟨c.digest.toArray⟩] 26)).alloc (.cells #[.string ⟨#[]⟩] 58)).alloc (.cells #[.bool false] 4)) w.heap.size 26 #[.int .u64 c.version, .int .u64 c.codec, .int .u64 c.code, .string ⟨c.digest.toArray⟩] := ((Blk.new _ _ _).alloc _).alloc _
  have BX : Blk (((w.alloc (.cells #[.int .u64 c.version, .int .u64 c.codec, .int .u64 c.code, .string ⟨c.digest.toArray⟩] 26)).alloc (.cells #[.string ⟨#[]⟩] 58)).alloc (.cells #[.bool false] 4)) (w.heap.size + 1) 58 #[.string ⟨#[]⟩] := by
    have := (Blk.new (w.alloc (.cells #[.int .u64 c.version, .int .u64 c.codec, .int .u64 c.code, .string ⟨c.digest.toArray⟩] 26)) 58 #[.string ⟨#[]⟩]).alloc (.cells #[.bool false] 4)
    simpa using this
  have BK : Blk (((w.alloc (.cells #[.int .u64 c.version, .int .u64 c.codec, .int .u64 c.code, .string ⟨c.digest.toArray⟩] 26)).alloc (.cells #[.string ⟨#[]⟩] 58)).alloc (.cells #[.bool false] 4)) (w.heap.size + 1 + 1) 4 #[.bool false] := by
    have := Blk.new ((w.alloc (.cells #[.int .u64 c.version, .int .u64 c.codec, .int .u64 c.code, .string ⟨c.digest.toArray⟩] 26)).alloc (.cells #[.string ⟨#[]⟩] 58)) 4 #[.bool false]
    simpa using this
  have hsD : (((w.alloc (.cells #[.int .u64 c.version, .int .u64 c.codec, .int .u64 c.code, .string ⟨c.digest.toArray⟩] 26)).alloc (.cells #[.string ⟨#[]⟩] 58)).alloc (.cells #[.bool false] 4)).heap.size = w.heap.size + 1 + 1 + 1 := by simp
  rw [hsD] at hbs hsz
  have BA1 := BA.old hb
  have BX1 := BX.old hb
  have BK1 := BK.old hb
  have b1 := Old.trans bD hb
  have q2 : (Lib.bytesWorld (((w.alloc (.cells #[.int .u64 c.version, .int .u64 c.codec, .int .u64 c.code, .string ⟨c.digest.toArray⟩] 26)).alloc (.cells #[.string ⟨#[]⟩] 58)).alloc (.cells #[.bool false] 4)) 5 ⟨c.digest.toArray⟩).cell? ⟨w.heap.size, 2, none⟩ = some (.int .u64 c.code) := BA1.cell 2
  clear BA BX BK bD hb hsD
  go_enter_defers Tryd.func23, Tryd.ntmps23
  go_wp2_with fail
  have hcode : (c.code : Int) < 18446744073709551616 ∧ (c.codec : Int) < 18446744073709551616 := by rcases HC.out with ⟨_, h1, h2, _⟩ | ⟨_, h1, h2⟩ <;> omega
  have HH := Lib.hid hcode
  clear hcode
  generalize Lib.bytesWorld (((w.alloc (.cells #[.int .u64 c.version, .int .u64 c.codec, .int .u64 c.code, .string ⟨c.digest.toArray⟩] 26)).alloc (.cells #[.string ⟨#[]⟩] 58)).alloc (.cells #[.bool false] 4)) 5 ⟨c.digest.toArray⟩ = W at *
  refine (mhEncode_any (w.heap.size + 1 + 1 + 1) 0 _ _ c.code c.digest W (by omega) HH.out.1 rfl (by omega) hbs).mono ?_
  rintro _ w2 ⟨rfl, b2, hbs2⟩
  rw [Int.toNat_natCast] at hbs2 ⊢
  rw [hsz] at hbs2 ⊢
  have BA2 := BA1.old b2
  have BX2 := BX1.old b2
  have BK2 := BK1.old b2
  have b02 := Old.trans b1 b2
  have z2 : w.heap.size + 1 + 1 + 1 < w2.heap.size := by have := b2.size; omega
  have p0 : w2.cell? ⟨w.heap.size, 0, none⟩ = some (.int .u64 c.version) := BA2.cell 0
  have p1 : w2.cell? ⟨w.heap.size, 1, none⟩ = some (.int .u64 c.codec) := BA2.cell 1
  have hlw : (mhWr c.code c.digest).length ≤ 1000000 := by
    have h1 := Lib.uvarint_length64 (x := c.code) (by have := HH.out.1; omega)
    have h2 := Lib.uvarint_length64 (x := c.digest.length) (by omega)
    simp only [mhWr, List.length_append]; omega
  have hgl : w.heap.size + 1 + 1 + 1 + 1 < w2.heap.size := hbs2.lt (by
    intro h
    have h1 := congrArg List.length h
    have h2 := Lib.uvarint_pos c.code
    simp only [mhWr, List.length_append, List.length_nil] at h1
    omega)
  clear BA1 BX1 BK1 b1 b2 q2 hsz hbs hcv
  obtain ⟨m, hm⟩ : ∃ m, mhWr c.code c.digest = m := ⟨_, rfl⟩
  rw [hm] at hlw hbs2 ⊢
  have HM := Lib.hid hm
  clear hm
  by_cases h0 : c.version = 0
  · obtain ⟨_, hd32, hcodec, hcd⟩ := wr_v0 HC.out h0
    have hv0 : ((c.version : Int) == 0) = true := by simp [h0]
    have hk : ((c.codec : Int) == 112) = true := by simp [hcodec]
    have hmr : mhRd m = some (18, c.digest, m.length) := by
      have := mhRd_mhWr c.code c.digest [] (by omega) (by omega)
      rw [List.append_nil, HM.out, hcd] at this
      exact this
    have hw : m = c.wr := by rw [CidL.wr, if_pos h0, HM.out]
    have H0 := Lib.hid (And.intro h0 (And.intro hmr (And.intro hd32 (And.intro hw (And.intro (e0.old b02) (And.intro (e1.old b02) (And.intro (e2.old b02) (e3.old b02))))))))
    have x3 : w2.cell? ⟨w.heap.size + 1, 0, none⟩ = some (.string ⟨#[]⟩) := BX2.cell 0
    have y3 : w2.cell? ⟨w.heap.size + 1 + 1, 0, none⟩ = some (.bool false) := BK2.cell 0
    have fx := BX2.frozen 0
    have fy := BK2.frozen 0
    have hnew := fun W (hW : Below w2.heap.size w2 W) => newV0_any (w.heap.size + 1 + 1 + 1 + 1) 0 m.length m.length m c.digest W rfl (by omega) (Nat.le_refl _) (hbs2.old hW) (Nat.lt_of_lt_of_le hgl hW.size) H0.out.2.1 H0.out.2.2.1 (H0.out.2.2.2.2.1.old hW) (H0.out.2.2.2.2.2.1.old hW) (H0.out.2.2.2.2.2.2.1.old hW) (H0.out.2.2.2.2.2.2.2.old hW)
    have HNW := Lib.hid hnew
    have HF := Lib.hid (show ∀ W, Below w2.heap.size w2 W → W.cell? ⟨w.heap.size, 1, none⟩ = some (.int .u64 c.codec) ∧ W.cell? ⟨w.heap.size + 1, 0, none⟩ = some (.string ⟨#[]⟩) ∧ W.cell? ⟨w.heap.size + 1 + 1, 0, none⟩ = some (.bool false) ∧ W.frozen? ⟨w.heap.size + 1, 0, none⟩ = false ∧ W.frozen? ⟨w.heap.size + 1 + 1, 0, none⟩ = false from
      fun W hW => ⟨(BA2.old hW).cell 1, (BX2.old hW).cell 0, (BK2.old hW).cell 0, (BX2.old hW).frozen 0, (BK2.old hW).frozen 0⟩)
    clear h0 hmr hd32 hw hcodec hcd e0 e1 e2 e3 hnew hbs2 BA2
    go_wp2_with fail
    refine wp_region_noPanic ?_
    go_region_with (go_at_call 38; refine (HNW.out _ (Below.refl _ _).drew).mono ?_; rintro _ w3 ⟨rfl, b3⟩; obtain ⟨p3, x4, y4, fx4, fy4⟩ := HF.out w3 (((Below.refl w2.heap.size w2).drew).trans b3))
    all_goals refine NoPanic.normal ?_
    all_goals go_wp2_with fail
    all_goals have b23 : Below w2.heap.size w2 w3 := ((Below.refl w2.heap.size w2).drew).trans b3
    all_goals have BX3 := BX2.old b23
    all_goals have BK3 := BK2.old b23
    all_goals have b03 := Old.trans b02 b23
    all_goals rw [← H0.out.2.2.2.1]
    all_goals refine leaves_cons (f := 36) (args := #[.pointer (some ⟨w.heap.size + 1, 0, none⟩), .pointer (some ⟨w.heap.size + 1 + 1, 0, none⟩)]) (by simp) (by simp [go_sem]) ?_
    all_goals refine (cidIn_idle _ _ _).mono ?_
    all_goals rintro e u' w'' ⟨rfl, rfl, rfl⟩
    all_goals have B0 := BX3.set_ 0 (.string ⟨m.toArray⟩)
    all_goals have BK4 := (BK3.far (p := ⟨w.heap.size + 1, 0, none⟩) (by simp) (.string ⟨m.toArray⟩)).set_ 0 (.bool true)
    all_goals have r1 : (w3.setCell ⟨w.heap.size + 1, 0, none⟩ (.string ⟨m.toArray⟩)).cell? ⟨w.heap.size + 1, 0, none⟩ = some (.string ⟨m.toArray⟩) := B0.cell 0
    all_goals have r2 : ((w3.setCell ⟨w.heap.size + 1, 0, none⟩ (.string ⟨m.toArray⟩)).setCell ⟨w.heap.size + 1 + 1, 0, none⟩ (.bool true)).cell? ⟨w.heap.size + 1 + 1, 0, none⟩ = some (.bool true) := BK4.cell 0
    all_goals have b04 : Below w.heap.size w ((w3.setCell ⟨w.heap.size + 1, 0, none⟩ (.string ⟨m.toArray⟩)).setCell ⟨w.heap.size + 1 + 1, 0, none⟩ (.bool true)) := (b03.setCell (p := ⟨w.heap.size + 1, 0, none⟩) (Nat.le_succ _) _).setCell (p := ⟨w.heap.size + 1 + 1, 0, none⟩) (by show w.heap.size ≤ w.heap.size + 1 + 1; omega) _
    all_goals simp [Leaves, settle, results, Tryd.results23, go_sem, r1, r2]
    all_goals exact b04
  · have hv0 : ((c.version : Int) == 0) = false := by simp; omega
    have hv1 : ((c.version : Int) == 1) = true := by rcases HC.out with ⟨h, _⟩ | ⟨h, _⟩ <;> simp <;> omega
    have H0 := Lib.hid h0
    clear h0
    go_wp2_with fail
    refine (newCidV1_any (w.heap.size + 1 + 1 + 1 + 1) 0 m.length m.length c.codec m w2 (by omega) HH.out.2 rfl hbs2 hlw hgl).mono ?_
    rw [Int.toNat_natCast]
    rintro _ w3 ⟨rfl, b3⟩
    have BX3 := BX2.old b3
    have BK3 := BK2.old b3
    have b03 := Old.trans b02 b3
    have x3 : w3.cell? ⟨w.heap.size + 1, 0, none⟩ = some (.string ⟨#[]⟩) := BX3.cell 0
    have y3 : w3.cell? ⟨w.heap.size + 1 + 1, 0, none⟩ = some (.bool false) := BK3.cell 0
    have fx := BX3.frozen 0
    have fy := BK3.frozen 0
    have hw : Lib.uvarint 1 ++ Lib.uvarint c.codec ++ m = c.wr := by rw [CidL.wr, if_neg H0.out, HM.out]
    rw [hw]
    clear hw p0 p1 BX2 BK2 BA2 b02 b3 hbs2
    go_wp2_with fail
    refine leaves_cons (f := 36) (args := #[.pointer (some ⟨w.heap.size + 1, 0, none⟩), .pointer (some ⟨w.heap.size + 1 + 1, 0, none⟩)]) (by simp) (by simp [go_sem]) ?_
    refine (cidIn_idle _ _ _).mono ?_
    rintro e u' w'' ⟨rfl, rfl, rfl⟩
    have B0 := BX3.set_ 0 (.string ⟨c.wr.toArray⟩)
    have BK4 := (BK3.far (p := ⟨w.heap.size + 1, 0, none⟩) (by simp) (.string ⟨c.wr.toArray⟩)).set_ 0 (.bool true)
    have r1 : (w3.setCell ⟨w.heap.size + 1, 0, none⟩ (.string ⟨c.wr.toArray⟩)).cell? ⟨w.heap.size + 1, 0, none⟩ = some (.string ⟨c.wr.toArray⟩) := B0.cell 0
    have r2 : ((w3.setCell ⟨w.heap.size + 1, 0, none⟩ (.string ⟨c.wr.toArray⟩)).setCell ⟨w.heap.size + 1 + 1, 0, none⟩ (.bool true)).cell? ⟨w.heap.size + 1 + 1, 0, none⟩ = some (.bool true) := BK4.cell 0
    have b04 : Below w.heap.size w ((w3.setCell ⟨w.heap.size + 1, 0, none⟩ (.string ⟨c.wr.toArray⟩)).setCell ⟨w.heap.size + 1 + 1, 0, none⟩ (.bool true)) := (b03.setCell (p := ⟨w.heap.size + 1, 0, none⟩) (Nat.le_succ _) _).setCell (p := ⟨w.heap.size + 1 + 1, 0, none⟩) (by show w.heap.size ≤ w.heap.size + 1 + 1; omega) _
    simp [Leaves, settle, results, Tryd.results23, go_sem, r1, r2]
    exact b04

end Go.Proofs.YtdfhfaeeejijcaaDoor
