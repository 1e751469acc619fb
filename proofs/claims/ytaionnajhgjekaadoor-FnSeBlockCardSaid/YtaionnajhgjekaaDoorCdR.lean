/-
  The walks of Cid.Prefix, Cid.Hash, impl.cidOut (of an identifier that is tidy). Conditions: as each contract says.
-/
import Derived.Test.YtaionnajhgjekaaDoorCdI
import Derived.StillTailTactics
namespace Go.Proofs.YtaionnajhgjekaaDoor
open Go.RowKit

set_option maxRecDepth 100000 in
set_option maxHeartbeats 2000000 in
theorem prefix_any (c : CidL) (l : List UInt8) (w : World) (hl : l = c.wr) (hc : c.tidy) (hd : c.digest.length ≤ 4096) (hm : l.length ≤ 1000000) :
    Calls Tryd.prog 44 #[.agg #[.string ⟨l.toArray⟩]] w fun e w' => e = .returned (.agg #[.int .u64 c.version, .int .u64 c.codec, .int .u64 c.code, .int .i64 c.digest.length]) ∧ Below w.heap.size w w' := by
  have b0 : Below w.heap.size w ((w.alloc (.cells #[.string ⟨l.toArray⟩] 72)).alloc (.cells #[.int .u64 0, .int .u64 0, .int .u64 0, .int .i64 0] 99)) := Old.alloc (Old.alloc (Below.refl _ _) _) _
  have BA : Blk ((w.alloc (.cells #[.string ⟨l.toArray⟩] 72)).alloc (.cells #[.int .u64 0, .int .u64 0, .int .u64 0, .int .i64 0] 99)) w.heap.size 72 #[.string ⟨l.toArray⟩] := (Blk.new _ _ _).alloc _
  have BR : Blk ((w.alloc (.cells #[.string ⟨l.toArray⟩] 72)).alloc (.cells #[.int .u64 0, .int .u64 0, .int .u64 0, .int .i64 0] 99)) (w.heap.size + 1) 99 #[.int .u64 0, .int .u64 0, .int .u64 0, .int .i64 0] := by
    have := Blk.new (w.alloc (.cells #[.string ⟨l.toArray⟩] 72)) 99 #[.int .u64 0, .int .u64 0, .int .u64 0, .int .i64 0]
    simpa using this
  by_cases h0 : c.version = 0
  · obtain ⟨_, h3, h1, h2⟩ := wr_v0 hc h0
    rw [h0, h1, h2, h3]
    have HL := Lib.hid (And.intro hl (And.intro hc h0))
    clear hl hc h0 h1 h2 h3
    go_enter Tryd.func44, Tryd.ntmps44
    go_wp2_with fail
    generalize (w.alloc (.cells #[.string ⟨l.toArray⟩] 72)).alloc (.cells #[.int .u64 0, .int .u64 0, .int .u64 0, .int .i64 0] 99) = W at *
    refine (version_any c l W HL.out.1 HL.out.2.1).mono ?_
    rw [HL.out.2.2]
    rintro _ w1 ⟨rfl, b1⟩
    have b01 := Old.trans b0 b1
    have BR1 := BR.old b1
    have q0 : w1.cell? ⟨w.heap.size + 1, 0, none⟩ = some (.int .u64 0) := BR1.cell 0
    have q1 : w1.cell? ⟨w.heap.size + 1, 1, none⟩ = some (.int .u64 0) := BR1.cell 1
    have q2 : w1.cell? ⟨w.heap.size + 1, 2, none⟩ = some (.int .u64 0) := BR1.cell 2
    have q3 : w1.cell? ⟨w.heap.size + 1, 3, none⟩ = some (.int .i64 0) := BR1.cell 3
    have f0 := BR1.frozen 0
    have f1 := BR1.frozen 1
    have f2 := BR1.frozen 2
    have f3 := BR1.frozen 3
    clear BA BR b0 b1
    go_wp2_with fail
    have z1 := BR1.lt
    have bS : Below w.heap.size w (w1.setCells (w.heap.size + 1) 0 [.int .u64 0, .int .u64 112, .int .u64 18, .int .i64 32]) := below_setCells (Nat.le_succ _) _ _ _ b01
    refine bodyPost_ret (ret_cell rfl rfl (BR1.row [.int .u64 0, .int .u64 112, .int .u64 18, .int .i64 32] rfl) Tryd.underlying99 (by kernel_rfl)) rfl ?_
    exact ⟨rfl, bS⟩
  · obtain ⟨n2, n3, n4, r1, r2, r3, r4, hlen, _, p2, p3, p4⟩ := wr_reads hc h0 (by omega)
    have hver : c.version = 1 := (wr_v1 hc h0).2.1
    have hdig : (c.digest.length : Int) < 9223372036854775808 := by omega
    rw [← hl] at r1 r2 r3 r4 hlen
    have HL := Lib.hid (And.intro hl (And.intro hc (And.intro hver (And.intro r1 (And.intro r2 (And.intro r3 r4))))))
    rw [hver]
    clear hl hc h0 hver r1 r2 r3 r4
    go_enter Tryd.func44, Tryd.ntmps44
    go_wp2_with fail
    generalize (w.alloc (.cells #[.string ⟨l.toArray⟩] 72)).alloc (.cells #[.int .u64 0, .int .u64 0, .int .u64 0, .int .i64 0] 99) = W at *
    refine (version_any c l W HL.out.1 HL.out.2.1).mono ?_
    rw [HL.out.2.2.1]
    rintro _ w1 ⟨rfl, b1⟩
    have b01 := Old.trans b0 b1
    have BR1 := BR.old b1
    have BA1 := BA.old b1
    have a0 : w1.cell? ⟨w.heap.size, 0, none⟩ = some (.string ⟨l.toArray⟩) := BA1.cell 0
    have q0 : w1.cell? ⟨w.heap.size + 1, 0, none⟩ = some (.int .u64 0) := BR1.cell 0
    have q1 : w1.cell? ⟨w.heap.size + 1, 1, none⟩ = some (.int .u64 0) := BR1.cell 1
    have q2 : w1.cell? ⟨w.heap.size + 1, 2, none⟩ = some (.int .u64 0) := BR1.cell 2
    have q3 : w1.cell? ⟨w.heap.size + 1, 3, none⟩ = some (.int .i64 0) := BR1.cell 3
    have f0 := BR1.frozen 0
    have f1 := BR1.frozen 1
    have f2 := BR1.frozen 2
    have f3 := BR1.frozen 3
    clear BA BR b0 b1 BA1
    go_wp2_with fail
    rw [str_from l rfl, List.drop_zero]
    refine (cidUv_any l 1 1 w1 (by omega) HL.out.2.2.2.1).mono ?_
    rintro _ w2 ⟨rfl, rfl⟩
    go_wp2_with fail
    rw [str_from l rfl]
    refine (cidUv_any (l.drop 1) c.codec n2 w1 (by rw [List.length_drop]; omega) HL.out.2.2.2.2.1).mono ?_
    rintro _ w2 ⟨rfl, rfl⟩
    go_wp2_with fail
    rw [str_from l rfl]
    refine (cidUv_any (l.drop (1 + n2)) c.code n3 w1 (by rw [List.length_drop]; omega) HL.out.2.2.2.2.2.1).mono ?_
    rintro _ w2 ⟨rfl, rfl⟩
    go_wp2_with fail
    rw [str_from l rfl]
    refine (cidUv_any (l.drop (1 + n2 + n3)) c.digest.length n4 w1 (by rw [List.length_drop]; omega) HL.out.2.2.2.2.2.2).mono ?_
    rintro _ w2 ⟨rfl, rfl⟩
    go_wp2_with fail
    have z1 := BR1.lt
    have bS : Below w.heap.size w (w1.setCells (w.heap.size + 1) 0 [.int .u64 1, .int .u64 c.codec, .int .u64 c.code, .int .i64 c.digest.length]) := below_setCells (Nat.le_succ _) _ _ _ b01
    refine bodyPost_ret (ret_cell rfl rfl (BR1.row [.int .u64 1, .int .u64 c.codec, .int .u64 c.code, .int .i64 c.digest.length] rfl) Tryd.underlying99 (by kernel_rfl)) rfl ?_
    exact ⟨rfl, bS⟩

theorem bs_from {w : World} {g o : Nat} {l : List UInt8} (h : Bs w g o l) (k : Nat) : Bs w g (o + k) (l.drop k) := by
  intro j hj
  simp only [List.length_drop] at hj
  rw [List.getElem_drop, show o + k + j = o + (k + j) from by omega]
  exact h (k + j) (by omega)
set_option maxRecDepth 100000 in
set_option maxHeartbeats 2000000 in
theorem cidHash_any (c : CidL) (l : List UInt8) (w : World) (hl : l = c.wr) (hc : c.tidy) (hd : c.digest.length ≤ 4096) (hm : l.length ≤ 1000000) (hp : 0 < l.length)
    (e0 : Er w 4) (e1 : Er w 5) (e2 : Er w 7) :
    Calls Tryd.prog 46 #[.agg #[.string ⟨l.toArray⟩]] w fun e w' => ∃ g o n cc, e = .returned (.slice (some ⟨g, o, none⟩) n cc) ∧ n = (mhWr c.code c.digest).length ∧ n ≤ cc ∧ g < w'.heap.size ∧ Bs w' g o (mhWr c.code c.digest) ∧ Below w.heap.size w w' := by
  have b0 : Below w.heap.size w (w.alloc (.cells #[.string ⟨l.toArray⟩] 72)) := Old.alloc (Below.refl _ _) _
  have BA := Blk.new w 72 #[.string ⟨l.toArray⟩]
  have HL := Lib.hid (And.intro hl hc)
  clear hl hc
  go_enter Tryd.func46, Tryd.ntmps46
  go_wp2_with fail
  generalize w.alloc (.cells #[.string ⟨l.toArray⟩] 72) = W at *
  refine (cidBytes_any l W hp (by omega)).mono ?_
  rintro e w1 ⟨g, cc, rfl, hg1, hg2, hcc, hbs, b1⟩
  have b01 := Old.trans b0 b1
  have BA1 := BA.old b1
  have a0 : w1.cell? ⟨w.heap.size, 0, none⟩ = some (.string ⟨l.toArray⟩) := BA1.cell 0
  clear b0 b1 BA
  go_wp2_with fail
  refine (version_any c l w1 HL.out.1 HL.out.2).mono ?_
  rintro e w2 ⟨rfl, b2⟩
  have b02 := Old.trans b01 b2
  have hbs2 := hbs.old b2
  have hg3 : g < w2.heap.size := Nat.lt_of_lt_of_le hg2 b2.size
  clear b01 b2 hbs BA1 a0
  by_cases h0 : c.version = 0
  · have hv : ((c.version : Int) == 0) = true := by simp [h0]
    have hw : l = mhWr c.code c.digest := by rw [HL.out.1, CidL.wr, if_pos h0]
    have HW := Lib.hid hw
    clear h0 hw
    go_wp2_with fail
    go_ret
    rw [← HW.out]
    exact ⟨g, 0, _, cc, rfl, rfl, hcc, hg3, hbs2, b02⟩
  · have hv : ((c.version : Int) == 0) = false := by simp; omega
    obtain ⟨n2, n3, n4, r1, r2, r3, r4, hlen, hdr, p2, p3, p4⟩ := wr_reads HL.out.2 h0 (by omega)
    rw [← HL.out.1] at r1 r2 hlen hdr
    have HR := Lib.hid (And.intro r1 (And.intro r2 hdr))
    clear r1 r2 r3 r4 hdr h0
    go_wp2_with fail
    refine (fromUvarint_any g 0 cc l w2 (by omega) hbs2 (e0.old b02) (e1.old b02) (e2.old b02)).mono ?_
    rw [HR.out.1]
    rintro e w3 ⟨⟨k, rfl⟩, rfl⟩
    go_wp2_with fail
    have hbs3 := (bs_from hbs2 1).drewN k
    rw [Nat.zero_add] at hbs3
    have hf := fromUvarint_any g 1 (cc - 1) (l.drop 1) (w2.drewN k) (by rw [List.length_drop]; omega) hbs3 (e0.old (below_drewN b02 k)) (e1.old (below_drewN b02 k)) (e2.old (below_drewN b02 k))
    rw [List.length_drop, HR.out.2.1] at hf
    refine hf.mono ?_
    clear hf
    rintro e w3 ⟨⟨k2, rfl⟩, rfl⟩
    go_wp2_with fail
    go_ret
    have hbs4 := bs_from hbs2 (1 + n2)
    rw [HR.out.2.2, Nat.zero_add] at hbs4
    have hln : l.length - (1 + n2) = (mhWr c.code c.digest).length := by rw [← HR.out.2.2, List.length_drop]
    exact ⟨g, 1 + n2, _, _, rfl, hln, by omega, hg3, hbs4.drewN _, below_drewN b02 _⟩

set_option maxRecDepth 100000 in
set_option maxHeartbeats 2000000 in
theorem cidOut_any (c : CidL) (l : List UInt8) (w : World) (hl : l = c.wr) (hc : c.tidy) (hd : c.digest.length ≤ 4096) (hm : l.length ≤ 1000000) (hp : 0 < l.length)
    (e0 : Er w 4) (e1 : Er w 5) (e2 : Er w 7) (e3 : Er w 8) :
    Calls Tryd.prog 32 #[.agg #[.string ⟨l.toArray⟩]] w fun e w' => e = .returned (.agg #[.int .u64 c.version, .int .u64 c.codec, .int .u64 c.code, .string ⟨c.digest.toArray⟩]) ∧ Below w.heap.size w w' := by
  have HL := Lib.hid (And.intro hl hc)
  clear hl hc
  have b0 : Below w.heap.size w ((w.alloc (.cells #[.string ⟨l.toArray⟩] 72)).alloc (.cells #[.int .u64 0, .int .u64 0, .int .u64 0, .string ⟨#[]⟩] 38)) := Old.alloc (Old.alloc (Below.refl _ _) _) _
  have BA : Blk ((w.alloc (.cells #[.string ⟨l.toArray⟩] 72)).alloc (.cells #[.int .u64 0, .int .u64 0, .int .u64 0, .string ⟨#[]⟩] 38)) w.heap.size 72 #[.string ⟨l.toArray⟩] := (Blk.new _ _ _).alloc _
  have BR : Blk ((w.alloc (.cells #[.string ⟨l.toArray⟩] 72)).alloc (.cells #[.int .u64 0, .int .u64 0, .int .u64 0, .string ⟨#[]⟩] 38)) (w.heap.size + 1) 38 #[.int .u64 0, .int .u64 0, .int .u64 0, .string ⟨#[]⟩] := by
    have := Blk.new (w.alloc (.cells #[.string ⟨l.toArray⟩] 72)) 38 #[.int .u64 0, .int .u64 0, .int .u64 0, .string ⟨#[]⟩]
    simpa using this
  go_enter Tryd.func32, Tryd.ntmps32
  go_wp2_with fail
  generalize (w.alloc (.cells #[.string ⟨l.toArray⟩] 72)).alloc (.cells #[.int .u64 0, .int .u64 0, .int .u64 0, .string ⟨#[]⟩] 38) = W at *
  refine (prefix_any c l W HL.out.1 HL.out.2 hd hm).mono ?_
  rintro _ w1 ⟨rfl, b1⟩
  have b01 := Old.trans b0 b1
  have BA1 := BA.old b1
  have BR1 := BR.old b1
  clear BA BR b0 b1
  have BP := Blk.new w1 99 #[.int .u64 c.version, .int .u64 c.codec, .int .u64 c.code, .int .i64 c.digest.length]
  have b02 := Old.alloc b01 (.cells #[.int .u64 c.version, .int .u64 c.codec, .int .u64 c.code, .int .i64 c.digest.length] 99)
  have BA2 := BA1.alloc (.cells #[.int .u64 c.version, .int .u64 c.codec, .int .u64 c.code, .int .i64 c.digest.length] 99)
  have BR2 := BR1.alloc (.cells #[.int .u64 c.version, .int .u64 c.codec, .int .u64 c.code, .int .i64 c.digest.length] 99)
  have a2 : (w1.alloc (.cells #[.int .u64 c.version, .int .u64 c.codec, .int .u64 c.code, .int .i64 c.digest.length] 99)).cell? ⟨w.heap.size, 0, none⟩ = some (.string ⟨l.toArray⟩) := BA2.cell 0
  obtain ⟨P, hP⟩ : ∃ P, w1.heap.size = P := ⟨_, rfl⟩
  rw [hP] at BP
  have zP : w.heap.size + 1 < P := by rw [← hP]; exact BR1.lt
  clear BA1 BR1 b01
  go_wp2_with fail
  clear hP
  generalize w1.alloc (.cells #[.int .u64 c.version, .int .u64 c.codec, .int .u64 c.code, .int .i64 c.digest.length] 99) = V at *
  refine (cidHash_any c l V HL.out.1 HL.out.2 hd hm hp (e0.old b02) (e1.old b02) (e2.old b02)).mono ?_
  rintro e w2 ⟨g, o, n, cc, rfl, hn, hncc, hg, hbs, b2⟩
  have b03 := Old.trans b02 b2
  have BP3 := BP.old b2
  have BR3 := BR2.old b2
  clear BP BR2 BA2 a2 b2
  have HN := Lib.hid hn
  clear hn
  have hcd : c.code < 9223372036854775808 := by rcases HL.out.2 with ⟨_, _, h, _⟩ | ⟨_, _, h⟩ <;> omega
  have hlw : (mhWr c.code c.digest).length ≤ 1000000 := by
    have h1 := Lib.uvarint_length64 (x := c.code) (by omega)
    have h2 := Lib.uvarint_length64 (x := c.digest.length) (by omega)
    simp only [mhWr, List.length_append]; omega
  have hrd : mhRd (mhWr c.code c.digest) = some (c.code, c.digest, (mhWr c.code c.digest).length) := by
    have := mhRd_mhWr c.code c.digest [] hcd (by omega)
    rwa [List.append_nil] at this
  have hdec := mhDecode_any g o n cc (mhWr c.code c.digest) w2 HN.out (by omega) (by rw [← HN.out]; exact hncc) hbs hg (e0.old b03) (e1.old b03) (e2.old b03) (e3.old b03)
  rw [hrd] at hdec
  clear hrd hbs
  have HD := Lib.hid hdec
  clear hdec
  go_wp2_with fail
  refine HD.out.mono ?_
  rintro e w3 ⟨b3, hy, _⟩
  obtain ⟨b, o2, c2, rfl, BD, hdc, hbs3⟩ := hy rfl
  clear hy HD
  have b04 := Old.trans b03 b3
  have BP4 := BP3.old b3
  have BR4 := BR3.old b3
  have p0 : w3.cell? ⟨P, 0, none⟩ = some (.int .u64 c.version) := BP4.cell 0
  have p1 : w3.cell? ⟨P, 1, none⟩ = some (.int .u64 c.codec) := BP4.cell 1
  have d0 : w3.cell? ⟨b, 0, none⟩ = some (.int .u64 c.code) := BD.cell 0
  have d3 : w3.cell? ⟨b, 3, none⟩ = some (.slice (some ⟨g, o2, none⟩) c.digest.length c2) := BD.cell 3
  have hcv : (convert 48 9 (.slice (some ⟨g, o2, none⟩) c.digest.length c2)).run Tryd.prog w3.drew = .ok (.string ⟨c.digest.toArray⟩) w3.drew := conv_str (P := Tryd.prog) Tryd.underlying48 Tryd.underlying5 Tryd.underlying9 (c := c2) hbs3 rfl
  clear BP3 BR3 b02 b3 BP4 BD b03
  have z4 := BR4.lt
  have f0 := BR4.frozen 0
  have f1 := BR4.frozen 1
  have f2 := BR4.frozen 2
  have f3 := BR4.frozen 3
  have r0 : w3.cell? ⟨w.heap.size + 1, 0, none⟩ = some (.int .u64 0) := BR4.cell 0
  have r1 : w3.cell? ⟨w.heap.size + 1, 1, none⟩ = some (.int .u64 0) := BR4.cell 1
  have r2 : w3.cell? ⟨w.heap.size + 1, 2, none⟩ = some (.int .u64 0) := BR4.cell 2
  have r3 : w3.cell? ⟨w.heap.size + 1, 3, none⟩ = some (.string ⟨#[]⟩) := BR4.cell 3
  go_wp2_with fail
  go_still_tail 14, (by kernel_rfl)
  change wpList _ _ _ _ _ w3.drew
  go_wp2_with fail
  refine bodyPost_ret (ret_cell rfl rfl (BR4.drew.row [.int .u64 c.version, .int .u64 c.codec, .int .u64 c.code, .string ⟨c.digest.toArray⟩] rfl) Tryd.underlying38 (by kernel_rfl)) rfl ?_
  exact ⟨rfl, RowKit.Below.drew (below_setCells (Nat.le_succ _) [.int .u64 c.version, .int .u64 c.codec, .int .u64 c.code, .string ⟨c.digest.toArray⟩] 0 _ b04)⟩
end Go.Proofs.YtaionnajhgjekaaDoor
