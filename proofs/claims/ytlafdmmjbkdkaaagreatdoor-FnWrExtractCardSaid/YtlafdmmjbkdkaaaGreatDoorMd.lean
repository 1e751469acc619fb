/-
  io.copyBuffer, io.Copy, io.CopyN of a bytes.Reader into impl.memory. Conditions: as each contract says.
-/
import Derived.Test.YtlafdmmjbkdkaaaGreatDoorJMb
import Derived.Deep.RegionWith
import Derived.Stop.Asserts
namespace Go.Proofs.YtlafdmmjbkdkaaaGreatDoor
open Go.RowKit

theorem limRd_m (lr : Nat) (W : World) : (method 424 136 (.pointer (some ⟨lr, 0, none⟩)) "Read").run Tryz.prog W = .ok (218, .pointer (some ⟨lr, 0, none⟩)) W := by kernel_rfl
theorem memWr_m (f : Nat) (W : World) : (method 424 44 (.pointer (some ⟨f, 0, none⟩)) "Write").run Tryz.prog W = .ok (200, .pointer (some ⟨f, 0, none⟩)) W := by kernel_rfl
theorem memWr_na (f : Nat) (W : World) : (nilAhead 424 44 (.pointer (some ⟨f, 0, none⟩)) "Write").run Tryz.prog W = .ok (some false) W := by kernel_rfl

theorem mk_big (k : Nat) (hk : k ≤ 1000000) (W : World) : (Instr.makeSlice 45 (.int .i64 (k : Nat)) (.int .i64 (k : Nat))).run Tryz.prog W = .ok (.slice (some ⟨W.heap.size, 0, none⟩) k k) (W.alloc (.cells (List.replicate k (.int .u8 0)).toArray 5)) := by
  obtain ⟨i0, hi, hz0, hz1, hz2⟩ := info_parts info5
  have hr := run_make (P := Tryz.prog) W 45 5 i0 (.int .u8 0) Tryz.underlying45 hi hz0 .i64 .i64 k k (by omega) (by omega) (by rw [hz2]; omega) (by omega)
  have ht0 : madeCells #[Value.int .u8 0] k = (List.replicate k (Value.int .u8 0)).toArray := by
    rw [← toList_madeCells_one (.int .u8 0) k]
  rw [← ht0]
  simpa [hz1, Value.cells] using hr

theorem neq_same (a : Addr) (W : World) : (binOp .neq 49 (.iface 110 (.pointer (some a))) (.iface 110 (.pointer (some a)))).run Tryz.prog W = .ok (.bool false) W := by
  obtain ⟨i, hi, hcmp⟩ := Option.map_eq_some_iff.1 isComp
  obtain ⟨j, hj, hjs⟩ := Option.map_eq_some_iff.1 isSize
  simp only [binOp]
  simp [Op.equal, Op.maxDepth, run_equalIn_iface_ptr_same W 9998 a Tryz.underlying49 Tryz.underlying110 hi hcmp hj]

/-- k bytes of s have gone over; of what was there before (n0 bytes) what is longer stands. -/
structure CpSt (l s : List UInt8) (u n0 f g0 lr r g n c gb m : Nat) (w : World) (k : Nat) (wr : World) : Prop where
  fL : Blk wr lr 138 #[.iface 51 (.pointer (some ⟨r, 0, none⟩)), .int .i64 ((s.length - k : Nat) : Int)]
  fR : Rdr wr r g 0 n c (u + k)
  fB : ∃ zs : List Value, Blk wr gb 5 zs.toArray ∧ zs.length = m
  fM : ∃ g' cap' x, Mem wr f g' cap' x (k : Nat) ∧ x.length = max n0 k ∧ x.take k = s.take k ∧ (g' = g0 ∨ w.heap.size ≤ g') ∧ g' ≠ gb ∧ g' ≠ lr
  fb : Kp [f, g0, r, lr] w wr

theorem cp_step {x s d : List UInt8} {k n0 : Nat} (hx : x.length = max n0 k) (ht : x.take k = s.take k) (hd : d = (s.drop k).take d.length) (_hk : k + d.length ≤ s.length) :
    (wrAt x d k).length = max n0 (k + d.length) ∧ (wrAt x d k).take (k + d.length) = s.take (k + d.length) := by
  have hkx : k ≤ x.length := by omega
  unfold wrAt
  constructor
  · simp only [List.length_append, List.length_take, List.length_drop]
    omega
  · rw [← List.append_assoc, List.take_append_of_le_length (by simp only [List.length_append, List.length_take]; omega), List.take_of_length_le (by simp only [List.length_append, List.length_take]; omega), ht]
    have h1 := List.take_append_drop k (s.take (k + d.length))
    rw [List.take_take, List.drop_take, show k + d.length - k = d.length by omega, Nat.min_eq_left (by omega)] at h1
    rw [← h1, ← hd]

set_option maxRecDepth 100000 in
set_option maxHeartbeats 8000000 in
theorem copyBuf (l s : List UInt8) (u n0 f g0 cap0 lr r g n c : Nat) (x0 : List UInt8) (aE : Addr) (w : World) (hL : Blk w lr 138 #[.iface 51 (.pointer (some ⟨r, 0, none⟩)), .int .i64 (s.length : Nat)]) (hs : (l.drop u).take s.length = s) (hs0 : 0 < s.length) (hs2 : s.length ≤ 10000000)
    (h : Rdr w r g 0 n c u) (hc : Bs w g 0 l) (hn : n = l.length) (hu : u + s.length ≤ n) (hnc : n ≤ c) (hl : l.length ≤ 100000000) (hM : Mem w f g0 cap0 x0 0) (hx0 : x0.length = n0) (hn0 : n0 ≤ 10000000) (hE : Ee w 2 aE)
    (hd : lr ≠ r ∧ lr ≠ f ∧ lr ≠ g0 ∧ lr ≠ g ∧ r ≠ f ∧ r ≠ g0 ∧ r ≠ g ∧ g ≠ f ∧ g ≠ g0 ∧ 2 ≠ lr ∧ 2 ≠ r ∧ 2 ≠ f ∧ 2 ≠ g0) (hgl : g < w.heap.size) :
    Calls Tryz.prog 75 #[.iface 44 (.pointer (some ⟨f, 0, none⟩)), .iface 136 (.pointer (some ⟨lr, 0, none⟩)), .slice none 0 0] w fun e w' =>
      e = .returned (.tuple #[.int .i64 (s.length : Nat), .nilIface]) ∧ (∃ g' cap' x, Mem w' f g' cap' x (s.length : Nat) ∧ x.length = max n0 s.length ∧ x.take s.length = s) ∧ Kp [f, g0, r, lr] w w' := by
  obtain ⟨N, hN⟩ : ∃ N, s.length = N := ⟨_, rfl⟩
  rw [hN] at hL hs hs0 hs2 hu ⊢
  have q1 : w.cell? ⟨lr, 1, none⟩ = some (.int .i64 (N : Nat)) := hL.cell 1
  have hd1 : decide ((N : Int) < 1) = false := by rw [decide_eq_false_iff_not]; omega
  have hlrl := hL.lt
  have hrl := h.lt
  have hfl := hM.F.lt
  have hg0l := hM.R.lt
  have hEl := hE.lt
  have hml := fun W => limRd_m lr W
  have hmw := fun W => memWr_m f W
  have hna := fun W => memWr_na f W
  have hta1 := fun W u => run_typeAssert_lacksB (P := Tryz.prog) (asserted := 160) (t := 136) Tryz.underlying160 (z := .nilIface) (by kernel_rfl) (by kernel_rfl) (.pointer (some ⟨lr, 0, none⟩)) u W
  have hta2 := fun W u => run_typeAssert_lacksB (P := Tryz.prog) (asserted := 164) (t := 44) Tryz.underlying164 (z := .nilIface) (by kernel_rfl) (by kernel_rfl) (.pointer (some ⟨f, 0, none⟩)) u W
  have hta3 : ∀ W, (Instr.typeAssert (.iface 136 (.pointer (some ⟨lr, 0, none⟩))) 100 136 true).run Tryz.prog W = .ok (.tuple #[.pointer (some ⟨lr, 0, none⟩), .bool true]) W := fun W => by kernel_rfl
  obtain ⟨m, hm⟩ : ∃ m, min 32768 N = m := ⟨_, rfl⟩
  have hmk := fun W => mk_big m (by omega) W
  have hnl : ∀ W, (binOp .eql 45 (.slice none 0 0) (.slice none 0 0)).run Tryz.prog W = .ok (.bool true) W := fun _ => by kernel_rfl
  have HI := Lib.hid (And.intro hL (And.intro h (And.intro hc (And.intro hM (And.intro hE (And.intro hd (And.intro hs (And.intro hN (And.intro hx0 hm)))))))))
  clear hL h hc hM hE hd hs hN hx0
  have hm0 : 0 < m := by omega
  have hmb : m ≤ 32768 := by omega
  by_cases hbig : N < 32768
  · have hb1 : decide ((N : Int) < 32768) = true := by rw [decide_eq_true_eq]; omega
    have hmk2 : ∀ W : World, (Instr.makeSlice 45 (.int .i64 (N : Nat)) (.int .i64 (N : Nat))).run Tryz.prog W = .ok (.slice (some ⟨W.heap.size, 0, none⟩) m m) (W.alloc (.cells (List.replicate m (.int .u8 0)).toArray 5)) := by
      have e : m = N := by omega
      intro W
      have := hmk W
      rw [e] at this ⊢
      exact this
    clear hbig hmk
    go_enter Tryz.func75, Tryz.ntmps75
    go_wp2_with fail
    obtain ⟨gb, hgb⟩ : ∃ gb, w.heap.size = gb := ⟨_, rfl⟩
    have st0 : CpSt l s u n0 f g0 lr r g n c gb m w 0 (w.alloc (.cells (Array.replicate m (.int .u8 0)) 5)) := by
      obtain ⟨hL, h, hc, hM, hE, hd, hs, hN, hx0, hm⟩ := HI.out
      have bA := Old.alloc (Below.refl w.heap.size w) (.cells (Array.replicate m (.int .u8 0)) 5)
      refine ⟨?_, h.old bA, ⟨List.replicate m (.int .u8 0), by rw [← hgb, List.toArray_replicate]; exact Blk.new _ _ _, by simp⟩, ⟨g0, cap0, x0, hM.old bA, by rw [hx0]; omega, by simp, .inl rfl, by omega, fun h => hd.2.2.1 h.symm⟩, Kp.of_below bA _⟩
      rw [hN]
      exact hL.old bA
    simp only [hgb]
    generalize w.alloc (.cells (Array.replicate m (.int .u8 0)) 5) = wA at *
    have HST := Lib.hid st0
    clear st0 q1 hmk2
    go_loopw [6, 7] (fun v e wr => ∃ k : Nat, k ≤ N ∧ v = .int .i64 k ∧ e = .nilIface ∧ CpSt l s u n0 f g0 lr r g n c gb m w k wr) (fun v _ _ => N - (intOf v).toNat)
    case atStart => exact ⟨0, Nat.zero_le _, rfl, rfl, HST.out⟩
    case round =>
      clear HST
      obtain ⟨k, hk, rfl, rfl, st⟩ := hrel
      have HS := Lib.hid st
      clear st
      by_cases hkn : k < N
      · obtain ⟨hL0, h0, hc0, hM0, hE0, hd, hs, hN, hx0, hm⟩ := HI.out
        obtain ⟨zs, hB, hzl⟩ := HS.out.fB
        obtain ⟨g', cap', x, hM, hxl, hxt, hg', hgg', hgl'⟩ := HS.out.fM
        have hL := HS.out.fL
        have hR := HS.out.fR
        have hb := HS.out.fb
        rw [hN] at hL
        have hc := hc0.kp hb (by simp [hd.2.2.2.2.2.2.2.1, hd.2.2.2.2.2.2.2.2.1, hd.2.2.2.2.2.2.1.symm, hd.2.2.2.1.symm])
        obtain ⟨kk, hkk⟩ : ∃ kk, min m (N - k) = kk := ⟨_, rfl⟩
        have hgbr : gb ≠ r := by omega
        have hgbg : g ≠ gb := by omega
        have hlgb : lr ≠ gb := by omega
        have hfgb : gb ≠ f := by omega
        have hlr := limRead lr r g n c (u + k) (N - k) gb m kk l zs 5 wr hL (by omega) (by omega) hR hc hn (by omega) hnc (by omega) hB hzl hm0 (by omega) hkk.symm hgbr hgbg hd.2.2.2.2.2.2.1.symm hd.1 hlgb
        obtain ⟨d, hdd⟩ : ∃ d, (l.drop (u + k)).take kk = d := ⟨_, rfl⟩
        have hdl : d.length = kk := by rw [← hdd, List.length_take, List.length_drop]; omega
        have hds : d = (s.drop k).take d.length := by
          rw [hdl, ← hdd, ← hs, List.drop_take, List.take_take, List.drop_drop, Nat.min_eq_left (by omega)]
        rw [hdd] at hlr
        have hstep := cp_step hxl hxt hds (by rw [hN, hdl]; omega)
        have hx7 : x.length ≤ 100000000 := by omega
        have hkx : k ≤ x.length := by omega
        have hk1 : k + kk ≤ N := by omega
        have hkk0 : 0 < kk := by omega
        have hkm : kk ≤ m := by omega
        have HL := Lib.hid hlr
        have HQ := Lib.hid (And.intro hM (And.intro hstep (And.intro hd (And.intro hdl (And.intro hb hN)))))
        have hgI : decide ((0 : Int) < (kk : Int)) = true := by rw [decide_eq_true_eq]; omega
        have hkmI : (kk : Int) ≤ (m : Int) := by omega
        clear hL0 h0 hc0 hM0 hE0 hs hN hx0 hm hB hM hxl hxt hL hR hb hc hlr hds hstep hd hdd hdl hkk
        go_wp2_with fail
        refine HL.out.mono ?_
        rintro e w1 ⟨rfl, L1, R1, B1, k1⟩
        obtain ⟨hM, hstep, hd, hdl, hb, hN⟩ := HQ.out
        have hBs : Bs w1 gb 0 d := by
          intro j hj
          rw [Nat.zero_add, B1.cell]
          simp only [List.getElem?_toArray]
          rw [List.getElem?_append_left (by rw [Lib.byteCells_length]; exact hj)]
          simp [Lib.byteCells, hj]
        have hM1 := hM.kp k1 (by simp [hd.2.1.symm, hd.2.2.2.2.1.symm, hfgb.symm]) (by
          have := hd.2.2.2.2.2.1
          simp [hgl', hgg']
          rcases hg' with h | h <;> omega)
        have hmw2 := memWrite f g' cap' gb 0 m k x d w1.drew (hM1.old ((Below.refl _ _).drew)) (hBs.drewN 1) (by omega) (by omega) hkx (by omega) (by omega) hx7 hfgb (fun h => hgg' h.symm)
        rw [hdl] at hmw2
        have hb1 : Kp [f, g0, r, lr] w w1 := hb.step k1 (by simp; omega)
        have HM := Lib.hid hmw2
        have hneg : decide ((kk : Int) < 0) = false := by rw [decide_eq_false_iff_not]; omega
        have hwk : IntKind.i64.wrap ((k : Int) + (kk : Int)) = (k : Int) + (kk : Int) := by rw [IntKind.wrap_i64]; omega
        have HB := Lib.hid (And.intro hx7 (And.intro hs2 (And.intro hl hn0)))
        clear hx7 hs2 hl hn0
        have HW := Lib.hid (And.intro L1 (And.intro R1 (And.intro B1 (And.intro hb1 (And.intro hzl (And.intro k1.size (And.intro B1.lt L1.lt)))))))
        clear hM hstep hd hb hN L1 R1 B1 k1 hBs hM1 hmw2 hb1
        go_wp2_with fail
        go_region_with (go_at_call 200; refine HM.out.mono ?_; rintro _ w2 ⟨g2, cap2, rfl, M2, hg2, k2⟩)
        all_goals
          have HY := Lib.hid (And.intro M2 (And.intro hg2 k2))
          clear M2 hg2 k2
          go_wp2_with fail
          obtain ⟨hM, hstep, hd, hdl, hb, hN⟩ := HQ.out
          obtain ⟨L1, R1, B1, hb1, hzl, hsz, hBl, hLl⟩ := HW.out
          obtain ⟨M2, hg2, k2⟩ := HY.out
          have kD : Kp [f, g'] w1 w2 := ((Kp.refl [f, g'] w1).drew).trans k2
          have hg2' : g2 = g' ∨ w1.heap.size ≤ g2 := hg2
          rw [hdl] at hstep
          have n1 := hd.2.1
          have n2 := hd.2.2.2.2.1
          have n3 := hd.2.2.2.2.2.1
          clear hd
          have hrg : r ≠ g' := by
            rcases hg' with h | h
            · rw [h]; exact n3
            · exact Nat.ne_of_lt (Nat.lt_of_lt_of_le hrl h)
          have c1 : gb ∉ [f, g'] := by simp [hfgb, Ne.symm hgg']
          have c2 : lr ∉ [f, g'] := by simp [n1, Ne.symm hgl']
          have c3 : r ∉ [f, g'] := by simp [n2, hrg]
          have c4 : ∀ i ∈ [f, g'], i ∈ [f, g0, r, lr] ∨ w.heap.size ≤ i := by
            intro i hi
            simp at hi
            rcases hi with rfl | rfl
            · exact .inl (by simp)
            · rcases hg' with h | h
              · left; simp [h]
              · exact .inr h
          have c5 : g2 = g0 ∨ w.heap.size ≤ g2 := by
            rcases hg2' with h | h
            · rw [h]; exact hg'
            · exact .inr (Nat.le_trans (Nat.le_trans hb.size hsz) h)
          have c6 : g2 ≠ gb := by
            rcases hg2' with h | h
            · rw [h]; exact hgg'
            · exact fun e => absurd (Nat.lt_of_lt_of_le hBl h) (by rw [e]; exact Nat.lt_irrefl _)
          have c7 : g2 ≠ lr := by
            rcases hg2' with h | h
            · rw [h]; exact hgl'
            · exact fun e => absurd (Nat.lt_of_lt_of_le hLl h) (by rw [e]; exact Nat.lt_irrefl _)
          clear hrg n1 n2 n3 hgg' hgl' hfgb hgbr hgbg hlgb hg' hg2 hg2'
          have e1 : N - (k + kk) = N - k - kk := by omega
          have e2 : u + (k + kk) = u + k + kk := by omega
          have s1 : Blk w2 lr 138 #[.iface 51 (.pointer (some ⟨r, 0, none⟩)), .int .i64 ((s.length - (k + kk) : Nat) : Int)] := by
            rw [hN, e1]
            exact L1.kp kD c2
          have s2 : Rdr w2 r g 0 n c (u + (k + kk)) := by
            rw [e2]
            obtain ⟨p, R1⟩ := R1
            exact ⟨p, R1.kp kD c3⟩
          have s3 : (Lib.byteCells d ++ zs.drop kk).length = m := by
            rw [List.length_append, Lib.byteCells_length, hdl, List.length_drop]
            omega
          have s4 : CpSt l s u n0 f g0 lr r g n c gb m w (k + kk) w2 := ⟨s1, s2, ⟨_, B1.kp kD c1, s3⟩, ⟨g2, cap2, _, M2, hstep.1, hstep.2, c5, c6, c7⟩, hb1.step kD c4⟩
          refine ⟨⟨k + kk, hk1, by go_num, rfl, s4⟩, ?_⟩
          clear s4 s3 s2 s1
          simp [intOf]
          omega
      · have hkN : k = N := by omega
        subst hkN
        obtain ⟨g', cap', x, hM, hxl, hxt, hg', hgg', hgl'⟩ := HS.out.fM
        have hL := HS.out.fL
        have hb := HS.out.fb
        obtain ⟨hL0, h0, hc0, hM0, hE0, hd, hs, hN, hx0, hm⟩ := HI.out
        rw [hN, Nat.sub_self] at hL
        have hE := hE0.kp hb (by simp [hd.2.2.2.2.2.2.2.2.2])
        have hle := limEnd lr r (.slice (some ⟨gb, 0, none⟩) m m) aE wr hL hE
        have hne := fun W => neq_same aE W
        have HL := Lib.hid hle
        have HQ := Lib.hid (And.intro hM (And.intro hxl (And.intro hxt (And.intro hb (And.intro hE (And.intro hs hN))))))
        clear hL0 h0 hc0 hM0 hE0 hd hs hN hx0 hm hM hxl hxt hg' hgg' hgl' hL hb hE hle
        go_wp2_with fail
        refine HL.out.mono ?_
        rintro e w1 ⟨rfl, k1⟩
        have qE : w1.cell? ⟨2, 0, none⟩ = some (.iface 110 (.pointer (some aE))) := HQ.out.2.2.2.2.1.kp k1 (by simp)
        have HK := Lib.hid k1
        clear k1
        go_wp2_with fail
        go_ret2
        obtain ⟨hM, hxl, hxt, hb, hE, hs, hN⟩ := HQ.out
        have k1 := HK.out
        exact ⟨rfl, ⟨g', cap', x, hM.kp k1 (by simp) (by simp), hxl, by rw [hxt, List.take_of_length_le (by omega)]⟩, hb.step k1 (by simp)⟩
  · have hb1 : decide ((N : Int) < 32768) = false := by rw [decide_eq_false_iff_not]; omega
    have hmk2 : ∀ W : World, (Instr.makeSlice 45 (.int .i64 32768) (.int .i64 32768)).run Tryz.prog W = .ok (.slice (some ⟨W.heap.size, 0, none⟩) m m) (W.alloc (.cells (List.replicate m (.int .u8 0)).toArray 5)) := by
      have e : m = 32768 := by omega
      intro W
      have := hmk W
      rw [e] at this ⊢
      exact this
    clear hbig hmk
    go_enter Tryz.func75, Tryz.ntmps75
    go_wp2_with fail
    obtain ⟨gb, hgb⟩ : ∃ gb, w.heap.size = gb := ⟨_, rfl⟩
    have st0 : CpSt l s u n0 f g0 lr r g n c gb m w 0 (w.alloc (.cells (Array.replicate m (.int .u8 0)) 5)) := by
      obtain ⟨hL, h, hc, hM, hE, hd, hs, hN, hx0, hm⟩ := HI.out
      have bA := Old.alloc (Below.refl w.heap.size w) (.cells (Array.replicate m (.int .u8 0)) 5)
      refine ⟨?_, h.old bA, ⟨List.replicate m (.int .u8 0), by rw [← hgb, List.toArray_replicate]; exact Blk.new _ _ _, by simp⟩, ⟨g0, cap0, x0, hM.old bA, by rw [hx0]; omega, by simp, .inl rfl, by omega, fun h => hd.2.2.1 h.symm⟩, Kp.of_below bA _⟩
      rw [hN]
      exact hL.old bA
    simp only [hgb]
    generalize w.alloc (.cells (Array.replicate m (.int .u8 0)) 5) = wA at *
    have HST := Lib.hid st0
    clear st0 q1 hmk2
    go_loopw [6, 7] (fun v e wr => ∃ k : Nat, k ≤ N ∧ v = .int .i64 k ∧ e = .nilIface ∧ CpSt l s u n0 f g0 lr r g n c gb m w k wr) (fun v _ _ => N - (intOf v).toNat)
    case atStart => exact ⟨0, Nat.zero_le _, rfl, rfl, HST.out⟩
    case round =>
      clear HST
      obtain ⟨k, hk, rfl, rfl, st⟩ := hrel
      have HS := Lib.hid st
      clear st
      by_cases hkn : k < N
      · obtain ⟨hL0, h0, hc0, hM0, hE0, hd, hs, hN, hx0, hm⟩ := HI.out
        obtain ⟨zs, hB, hzl⟩ := HS.out.fB
        obtain ⟨g', cap', x, hM, hxl, hxt, hg', hgg', hgl'⟩ := HS.out.fM
        have hL := HS.out.fL
        have hR := HS.out.fR
        have hb := HS.out.fb
        rw [hN] at hL
        have hc := hc0.kp hb (by simp [hd.2.2.2.2.2.2.2.1, hd.2.2.2.2.2.2.2.2.1, hd.2.2.2.2.2.2.1.symm, hd.2.2.2.1.symm])
        obtain ⟨kk, hkk⟩ : ∃ kk, min m (N - k) = kk := ⟨_, rfl⟩
        have hgbr : gb ≠ r := by omega
        have hgbg : g ≠ gb := by omega
        have hlgb : lr ≠ gb := by omega
        have hfgb : gb ≠ f := by omega
        have hlr := limRead lr r g n c (u + k) (N - k) gb m kk l zs 5 wr hL (by omega) (by omega) hR hc hn (by omega) hnc (by omega) hB hzl hm0 (by omega) hkk.symm hgbr hgbg hd.2.2.2.2.2.2.1.symm hd.1 hlgb
        obtain ⟨d, hdd⟩ : ∃ d, (l.drop (u + k)).take kk = d := ⟨_, rfl⟩
        have hdl : d.length = kk := by rw [← hdd, List.length_take, List.length_drop]; omega
        have hds : d = (s.drop k).take d.length := by
          rw [hdl, ← hdd, ← hs, List.drop_take, List.take_take, List.drop_drop, Nat.min_eq_left (by omega)]
        rw [hdd] at hlr
        have hstep := cp_step hxl hxt hds (by rw [hN, hdl]; omega)
        have hx7 : x.length ≤ 100000000 := by omega
        have hkx : k ≤ x.length := by omega
        have hk1 : k + kk ≤ N := by omega
        have hkk0 : 0 < kk := by omega
        have hkm : kk ≤ m := by omega
        have HL := Lib.hid hlr
        have HQ := Lib.hid (And.intro hM (And.intro hstep (And.intro hd (And.intro hdl (And.intro hb hN)))))
        have hgI : decide ((0 : Int) < (kk : Int)) = true := by rw [decide_eq_true_eq]; omega
        have hkmI : (kk : Int) ≤ (m : Int) := by omega
        clear hL0 h0 hc0 hM0 hE0 hs hN hx0 hm hB hM hxl hxt hL hR hb hc hlr hds hstep hd hdd hdl hkk
        go_wp2_with fail
        refine HL.out.mono ?_
        rintro e w1 ⟨rfl, L1, R1, B1, k1⟩
        obtain ⟨hM, hstep, hd, hdl, hb, hN⟩ := HQ.out
        have hBs : Bs w1 gb 0 d := by
          intro j hj
          rw [Nat.zero_add, B1.cell]
          simp only [List.getElem?_toArray]
          rw [List.getElem?_append_left (by rw [Lib.byteCells_length]; exact hj)]
          simp [Lib.byteCells, hj]
        have hM1 := hM.kp k1 (by simp [hd.2.1.symm, hd.2.2.2.2.1.symm, hfgb.symm]) (by
          have := hd.2.2.2.2.2.1
          simp [hgl', hgg']
          rcases hg' with h | h <;> omega)
        have hmw2 := memWrite f g' cap' gb 0 m k x d w1.drew (hM1.old ((Below.refl _ _).drew)) (hBs.drewN 1) (by omega) (by omega) hkx (by omega) (by omega) hx7 hfgb (fun h => hgg' h.symm)
        rw [hdl] at hmw2
        have hb1 : Kp [f, g0, r, lr] w w1 := hb.step k1 (by simp; omega)
        have HM := Lib.hid hmw2
        have hneg : decide ((kk : Int) < 0) = false := by rw [decide_eq_false_iff_not]; omega
        have hwk : IntKind.i64.wrap ((k : Int) + (kk : Int)) = (k : Int) + (kk : Int) := by rw [IntKind.wrap_i64]; omega
        have HB := Lib.hid (And.intro hx7 (And.intro hs2 (And.intro hl hn0)))
        clear hx7 hs2 hl hn0
        have HW := Lib.hid (And.intro L1 (And.intro R1 (And.intro B1 (And.intro hb1 (And.intro hzl (And.intro k1.size (And.intro B1.lt L1.lt)))))))
        clear hM hstep hd hb hN L1 R1 B1 k1 hBs hM1 hmw2 hb1
        go_wp2_with fail
        go_region_with (go_at_call 200; refine HM.out.mono ?_; rintro _ w2 ⟨g2, cap2, rfl, M2, hg2, k2⟩)
        all_goals
          have HY := Lib.hid (And.intro M2 (And.intro hg2 k2))
          clear M2 hg2 k2
          go_wp2_with fail
          obtain ⟨hM, hstep, hd, hdl, hb, hN⟩ := HQ.out
          obtain ⟨L1, R1, B1, hb1, hzl, hsz, hBl, hLl⟩ := HW.out
          obtain ⟨M2, hg2, k2⟩ := HY.out
          have kD : Kp [f, g'] w1 w2 := ((Kp.refl [f, g'] w1).drew).trans k2
          have hg2' : g2 = g' ∨ w1.heap.size ≤ g2 := hg2
          rw [hdl] at hstep
          have n1 := hd.2.1
          have n2 := hd.2.2.2.2.1
          have n3 := hd.2.2.2.2.2.1
          clear hd
          have hrg : r ≠ g' := by
            rcases hg' with h | h
            · rw [h]; exact n3
            · exact Nat.ne_of_lt (Nat.lt_of_lt_of_le hrl h)
          have c1 : gb ∉ [f, g'] := by simp [hfgb, Ne.symm hgg']
          have c2 : lr ∉ [f, g'] := by simp [n1, Ne.symm hgl']
          have c3 : r ∉ [f, g'] := by simp [n2, hrg]
          have c4 : ∀ i ∈ [f, g'], i ∈ [f, g0, r, lr] ∨ w.heap.size ≤ i := by
            intro i hi
            simp at hi
            rcases hi with rfl | rfl
            · exact .inl (by simp)
            · rcases hg' with h | h
              · left; simp [h]
              · exact .inr h
          have c5 : g2 = g0 ∨ w.heap.size ≤ g2 := by
            rcases hg2' with h | h
            · rw [h]; exact hg'
            · exact .inr (Nat.le_trans (Nat.le_trans hb.size hsz) h)
          have c6 : g2 ≠ gb := by
            rcases hg2' with h | h
            · rw [h]; exact hgg'
            · exact fun e => absurd (Nat.lt_of_lt_of_le hBl h) (by rw [e]; exact Nat.lt_irrefl _)
          have c7 : g2 ≠ lr := by
            rcases hg2' with h | h
            · rw [h]; exact hgl'
            · exact fun e => absurd (Nat.lt_of_lt_of_le hLl h) (by rw [e]; exact Nat.lt_irrefl _)
          clear hrg n1 n2 n3 hgg' hgl' hfgb hgbr hgbg hlgb hg' hg2 hg2'
          have e1 : N - (k + kk) = N - k - kk := by omega
          have e2 : u + (k + kk) = u + k + kk := by omega
          have s1 : Blk w2 lr 138 #[.iface 51 (.pointer (some ⟨r, 0, none⟩)), .int .i64 ((s.length - (k + kk) : Nat) : Int)] := by
            rw [hN, e1]
            exact L1.kp kD c2
          have s2 : Rdr w2 r g 0 n c (u + (k + kk)) := by
            rw [e2]
            obtain ⟨p, R1⟩ := R1
            exact ⟨p, R1.kp kD c3⟩
          have s3 : (Lib.byteCells d ++ zs.drop kk).length = m := by
            rw [List.length_append, Lib.byteCells_length, hdl, List.length_drop]
            omega
          have s4 : CpSt l s u n0 f g0 lr r g n c gb m w (k + kk) w2 := ⟨s1, s2, ⟨_, B1.kp kD c1, s3⟩, ⟨g2, cap2, _, M2, hstep.1, hstep.2, c5, c6, c7⟩, hb1.step kD c4⟩
          refine ⟨⟨k + kk, hk1, by go_num, rfl, s4⟩, ?_⟩
          clear s4 s3 s2 s1
          simp [intOf]
          omega
      · have hkN : k = N := by omega
        subst hkN
        obtain ⟨g', cap', x, hM, hxl, hxt, hg', hgg', hgl'⟩ := HS.out.fM
        have hL := HS.out.fL
        have hb := HS.out.fb
        obtain ⟨hL0, h0, hc0, hM0, hE0, hd, hs, hN, hx0, hm⟩ := HI.out
        rw [hN, Nat.sub_self] at hL
        have hE := hE0.kp hb (by simp [hd.2.2.2.2.2.2.2.2.2])
        have hle := limEnd lr r (.slice (some ⟨gb, 0, none⟩) m m) aE wr hL hE
        have hne := fun W => neq_same aE W
        have HL := Lib.hid hle
        have HQ := Lib.hid (And.intro hM (And.intro hxl (And.intro hxt (And.intro hb (And.intro hE (And.intro hs hN))))))
        clear hL0 h0 hc0 hM0 hE0 hd hs hN hx0 hm hM hxl hxt hg' hgg' hgl' hL hb hE hle
        go_wp2_with fail
        refine HL.out.mono ?_
        rintro e w1 ⟨rfl, k1⟩
        have qE : w1.cell? ⟨2, 0, none⟩ = some (.iface 110 (.pointer (some aE))) := HQ.out.2.2.2.2.1.kp k1 (by simp)
        have HK := Lib.hid k1
        clear k1
        go_wp2_with fail
        go_ret2
        obtain ⟨hM, hxl, hxt, hb, hE, hs, hN⟩ := HQ.out
        have k1 := HK.out
        exact ⟨rfl, ⟨g', cap', x, hM.kp k1 (by simp) (by simp), hxl, by rw [hxt, List.take_of_length_le (by omega)]⟩, hb.step k1 (by simp)⟩
end Go.Proofs.YtlafdmmjbkdkaaaGreatDoor
