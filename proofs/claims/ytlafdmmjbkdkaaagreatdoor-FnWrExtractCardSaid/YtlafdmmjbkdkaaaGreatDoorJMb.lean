/-
  impl.memory: WriteAt, Write, Size, Truncate. Conditions: as each contract says.
  impl.memory: Write, Size, Truncate; io.LimitedReader.Read over a bytes.Reader; bytes.Reader.Seek. Conditions: as each contract says.
-/
import Derived.Test.YtlafdmmjbkdkaaaGreatDoorJMa
import Derived.Test.YtlafdmmjbkdkaaaGreatDoorJC2Small
namespace Go.Proofs.YtlafdmmjbkdkaaaGreatDoor
open Go.RowKit

/-- The file in memory f: its bytes lie in block g, and its place is at. -/
structure Mem (w : World) (f g cap : Nat) (l : List UInt8) (at_ : Int) : Prop where
  F : Blk w f 47 #[.slice (some ⟨g, 0, none⟩) l.length cap, .int .i64 at_]
  R : RowB w g cap l
  n : g ≠ f
theorem Mem.kp {w w' : World} {f g cap : Nat} {l : List UInt8} {at_ : Int} {L : List Nat} (h : Mem w f g cap l at_) (k : Kp L w w') (hf : f ∉ L) (hg : g ∉ L) : Mem w' f g cap l at_ := ⟨h.F.kp k hf, h.R.kp k hg, h.n⟩
theorem Mem.old {w w' : World} {f g cap : Nat} {l : List UInt8} {at_ : Int} (h : Mem w f g cap l at_) (b : Below w.heap.size w w') : Mem w' f g cap l at_ := h.kp (Kp.of_below b []) (by simp) (by simp)

/-- What WriteAt makes of the bytes. -/
def wrAt (l P : List UInt8) (k : Nat) : List UInt8 := l.take k ++ (P ++ l.drop (k + P.length))
theorem wrAt_pad (l P : List UInt8) (k : Nat) (h : k ≤ l.length) (m : Nat) (hm : l.length + m = k + P.length) : wrAt (l ++ List.replicate m 0) P k = wrAt l P k := by
  unfold wrAt
  rw [List.take_append_of_le_length h]
  congr 2
  rw [List.drop_of_length_le (by simp; omega), List.drop_of_length_le (by omega)]

/-- What WriteAt, Write come to. -/
def MwPost (f g : Nat) (l P : List UInt8) (k : Nat) (at2 : Int) (w : World) (e : Ending) (w' : World) : Prop :=
  ∃ g' cap', e = .returned (.tuple #[.int .i64 (P.length : Nat), .nilIface]) ∧ Mem w' f g' cap' (wrAt l P k) at2 ∧ (g' = g ∨ w.heap.size ≤ g') ∧ Kp [f, g] w w'

set_option maxRecDepth 100000 in
set_option maxHeartbeats 4000000 in
theorem memWriteAt (f g cap pg po pc k : Nat) (l P : List UInt8) (at_ : Int) (w : World) (h : Mem w f g cap l at_) (hP : Bs w pg po P) (hP0 : 0 < P.length) (_hPc : P.length ≤ pc) (hk : k ≤ l.length) (hk2 : k ≤ 16777216) (hPl : P.length ≤ 100000000) (_hll : l.length ≤ 100000000) (hpf : pg ≠ f) (hpg : pg ≠ g) :
    Calls Tryz.prog 202 #[.pointer (some ⟨f, 0, none⟩), .slice (some ⟨pg, po, none⟩) P.length pc, .int .i64 (k : Nat)] w (MwPost f g l P k at_ w) := by
  obtain ⟨i0, hi0, hz0, hz1, hz2⟩ := info_parts info5
  have hd0 : decide ((k : Int) < 0) = false := by rw [decide_eq_false_iff_not]; omega
  have hd1 : decide (16777216 < (k : Int)) = false := by rw [decide_eq_false_iff_not]; omega
  have hPlt := hP.lt (by intro h; rw [h] at hP0; simp at hP0)
  have hfl := h.F.lt
  have hgl := h.R.lt
  obtain ⟨n, hn⟩ : ∃ n, P.length = n := ⟨_, rfl⟩
  rw [hn] at hP0 hPl
  have HI := Lib.hid (And.intro h (And.intro hP (And.intro hi0 (And.intro hz0 (And.intro hz1 (And.intro hz2 hn))))))
  rw [hn]
  clear h hP hi0 hz0 hz1 hz2 hn
  have hwn : IntKind.i64.wrap ((k : Int) + (n : Int)) = (k : Int) + (n : Int) := by rw [IntKind.wrap_i64]; omega
  go_enter Tryz.func202, Tryz.ntmps202
  go_wp2_with fail
  go_loopw [33] (fun _ wr => ∃ (m g' cap' : Nat), (m = 0 ∨ l.length + m ≤ k + n) ∧ Mem wr f g' cap' (l ++ List.replicate m 0) at_ ∧ (g' = g ∨ w.heap.size ≤ g') ∧ Kp [f, g] w wr) (fun _ wr => match wr.cell? ⟨f, 0, none⟩ with
    | some (.slice _ a _) => k + n - a
    | _ => 0)
  case atStart => exact ⟨0, g, cap, .inl rfl, by simpa using HI.out.1, .inl rfl, Kp.refl _ _⟩
  case round =>
    obtain ⟨m, g', cap', hm, M, hg', kw⟩ := hrel
    obtain ⟨Lm, hLm⟩ : ∃ Lm, l ++ List.replicate m 0 = Lm := ⟨_, rfl⟩
    rw [hLm] at M
    obtain ⟨lm, hlm⟩ : ∃ lm, Lm.length = lm := ⟨_, rfl⟩
    have hLl : lm = l.length + m := by rw [← hlm, ← hLm]; simp
    have q0 : wr.cell? ⟨f, 0, none⟩ = some (.slice (some ⟨g', 0, none⟩) lm cap') := by rw [← hlm]; exact M.F.cell 0
    have hfw := M.F.lt
    have hgw := M.R.lt
    have hcl : lm ≤ cap' := by rw [← hlm]; exact M.R.le
    by_cases hlt : lm < k + n
    · have hdd : decide ((lm : Int) < (k : Int) + (n : Int)) = true := by rw [decide_eq_true_eq]; omega
      obtain ⟨g2, cap2, w2, hap, hR2, hk2, hg2⟩ := rowB_append wr i0 HI.out.2.2.1 HI.out.2.2.2.1 HI.out.2.2.2.2.1 HI.out.2.2.2.2.2.1 g' cap' Lm 0 M.R (by omega)
      rw [show (((0 : UInt8).toNat : Nat) : Int) = 0 from rfl, hlm] at hap
      have F2 := M.F.kp hk2 (by simpa using fun h => M.n h.symm)
      rw [hlm] at F2
      have q2 : w2.cell? ⟨f, 0, none⟩ = some (.slice (some ⟨g', 0, none⟩) lm cap') := F2.cell 0
      have f2 := F2.frozen 0
      have HAP := Lib.hid hap
      have hn2 : g2 ≠ f := by have := M.n; rcases hg2 with h | h <;> omega
      have HX := Lib.hid (And.intro F2 (And.intro hR2 (And.intro hk2 (And.intro hLm (And.intro M.n (And.intro hlm hLl))))))
      clear hap hR2 hk2 F2 hLm M hlm hLl
      go_wp2_with (at_builtin; go_must (refine wpList_append_run rfl _ _ 45 45 rfl _ _ rfl rfl _ _ HAP.out ?_))
      go_roundw
      case rel =>
        obtain ⟨F2, hR2, hk2, hLm, hMn, hlm, hLl⟩ := HX.out
        have hL1 : l ++ List.replicate (m + 1) 0 = Lm ++ [0] := by rw [List.replicate_succ', ← List.append_assoc, hLm]
        have hl1 : (Lm ++ [(0 : UInt8)]).length = lm + 1 := by simp [hlm]
        have ks : Kp [f] w2 (w2.setCell ⟨f, 0, none⟩ (.slice (some ⟨g2, 0, none⟩) (lm + 1) cap2)) := (Kp.refl _ _).setCell (.inl (by simp)) _
        refine ⟨m + 1, g2, cap2, .inr (by omega), ⟨?_, ?_, hn2⟩, ?_, ?_⟩
        · rw [hL1, hl1]
          exact F2.set_ 0 _
        · rw [hL1]
          exact hR2.kp ks (by simpa using hn2)
        · have := kw.size
          rcases hg2 with h | h
          · rw [h]; exact hg'
          · right; omega
        · exact (kw.step hk2 (by simp; rcases hg' with h | h <;> omega)).step ks (by simp)
      case measure =>
        have e2 : (w2.setCell ⟨f, 0, none⟩ (.slice (some ⟨g2, 0, none⟩) (lm + 1) cap2)).cell? ⟨f, 0, none⟩ = some (.slice (some ⟨g2, 0, none⟩) (lm + 1) cap2) := World.cell?_setCell_same _ _ _ q2
        simp only [q0, e2]
        omega
    · have hdd : decide ((lm : Int) < (k : Int) + (n : Int)) = false := by rw [decide_eq_false_iff_not]; omega
      have hkl : k ≤ lm := by omega
      have hck : ¬ cap' = k := by omega
      have hPw := HI.out.2.1.kp kw (by simp [hpf, hpg])
      have hPn := HI.out.2.2.2.2.2.2
      have hbl : (Lib.byteCells P).length = n := by rw [Lib.byteCells_length, hPn]
      have hcp := run_copy_cells (P := Tryz.prog) wr 45 45 3 5 g' k (lm - k) (cap' - k) ⟨pg, po, none⟩ n pc (Lib.byteCells P) Tryz.underlying45 (by rw [HI.out.2.2.1]; exact congrArg some HI.out.2.2.2.2.1)
        (by rw [hbl]; exact (Nat.min_eq_left (by omega)).symm) (bs_src hPw) (by
          intro j hj
          rw [hbl] at hj
          exact (M.R.ok _ (by omega)).1) (by
          intro j hj
          rw [hbl] at hj
          exact (M.R.ok _ (by omega)).2) (bytes_one _)
      rw [hbl] at hcp
      have hcy := rowB_copy M.R k (P := P) (by omega)
      have hwl : wrAt Lm P k = wrAt l P k := by
        rcases hm with h0 | h1
        · subst h0
          rw [← hLm]
          simp
        · rw [← hLm]
          exact wrAt_pad l P k hk m (by omega)
      have hlen : (wrAt Lm P k).length = lm := by unfold wrAt; simp only [List.length_append, List.length_take, List.length_drop]; omega
      have F2 := M.F.kp hcy.2 (by simpa using fun h => M.n h.symm)
      rw [hlm] at F2
      have k2 := kw.step hcy.2 (by simp; rcases hg' with h | h <;> omega)
      have HX := Lib.hid (And.intro F2 (And.intro hcy.1 (And.intro k2 (And.intro hwl (And.intro hlen M.n)))))
      clear hcy hwl hlen F2 k2 hLm M hPw hPn hbl hlm hLl
      go_wp2_with fail
      go_ret2
      obtain ⟨F2, hR, k2, hwl, hlen, hMn⟩ := HX.out
      refine ⟨g', cap', ?_, ⟨?_, ?_, hMn⟩, hg', k2⟩
      · rw [HI.out.2.2.2.2.2.2]
        rfl
      · rw [← hwl, hlen]
        exact F2
      · rw [← hwl]
        exact hR
end Go.Proofs.YtlafdmmjbkdkaaaGreatDoor

namespace Go.Proofs.YtlafdmmjbkdkaaaGreatDoor
open Go.RowKit

set_option maxRecDepth 100000 in
set_option maxHeartbeats 4000000 in
theorem memWrite (f g cap pg po pc k : Nat) (l P : List UInt8) (w : World) (h : Mem w f g cap l (k : Nat)) (hP : Bs w pg po P) (hP0 : 0 < P.length) (hPc : P.length ≤ pc) (hk : k ≤ l.length) (hk2 : k ≤ 16777216) (hPl : P.length ≤ 100000000) (hll : l.length ≤ 100000000) (hpf : pg ≠ f) (hpg : pg ≠ g) :
    Calls Tryz.prog 200 #[.pointer (some ⟨f, 0, none⟩), .slice (some ⟨pg, po, none⟩) P.length pc] w (MwPost f g l P k ((k + P.length : Nat) : Int) w) := by
  have q1 : w.cell? ⟨f, 1, none⟩ = some (.int .i64 (k : Nat)) := h.F.cell 1
  have H := Lib.hid (memWriteAt f g cap pg po pc k l P (k : Nat) w h hP hP0 hPc hk hk2 hPl hll hpf hpg)
  have hw : IntKind.i64.wrap ((k : Int) + (P.length : Int)) = (k : Int) + (P.length : Int) := by rw [IntKind.wrap_i64]; omega
  clear h hP
  go_enter Tryz.func200, Tryz.ntmps200
  go_wp2_with fail
  refine H.out.mono ?_
  rintro e w1 ⟨g', cap', rfl, M, hg, hk⟩
  have p1 : w1.cell? ⟨f, 1, none⟩ = some (.int .i64 (k : Nat)) := M.F.cell 1
  have f1 := M.F.frozen 1
  have HX := Lib.hid (And.intro M (And.intro hg hk))
  clear M hg hk q1
  go_wp2_with fail
  go_ret2
  obtain ⟨M, hg, hk⟩ := HX.out
  have ks : Kp [f] w1 (w1.setCell ⟨f, 1, none⟩ (.int .i64 ((k : Int) + (P.length : Int)))) := (Kp.refl _ _).setCell (.inl (by simp)) _
  refine ⟨g', cap', rfl, ⟨?_, M.R.kp ks (by simpa using M.n), M.n⟩, hg, hk.step ks (by simp)⟩
  have e : ((k + P.length : Nat) : Int) = (k : Int) + (P.length : Int) := by omega
  rw [e]
  exact M.F.set_ 1 _

set_option maxRecDepth 100000 in
theorem memSize (f g cap : Nat) (l : List UInt8) (at_ : Int) (w : World) (h : Mem w f g cap l at_) :
    Calls Tryz.prog 198 #[.pointer (some ⟨f, 0, none⟩)] w fun e w' => e = .returned (.int .i64 (l.length : Nat)) ∧ w' = w := by
  have q0 : w.cell? ⟨f, 0, none⟩ = some (.slice (some ⟨g, 0, none⟩) l.length cap) := h.F.cell 0
  go_enter Tryz.func198, Tryz.ntmps198
  go_wp2_with fail
  go_ret
  exact ⟨rfl, rfl⟩

set_option maxRecDepth 100000 in
theorem memTrunc (f g cap n : Nat) (l : List UInt8) (at_ : Int) (w : World) (h : Mem w f g cap l at_) (hn : n ≤ l.length) :
    Calls Tryz.prog 199 #[.pointer (some ⟨f, 0, none⟩), .int .i64 (n : Nat)] w fun e w' => e = .returned .nilIface ∧ Mem w' f g cap (l.take n) at_ ∧ Kp [f] w w' := by
  have q0 : w.cell? ⟨f, 0, none⟩ = some (.slice (some ⟨g, 0, none⟩) l.length cap) := h.F.cell 0
  have f0 := h.F.frozen 0
  have hd0 : decide ((n : Int) < 0) = false := by rw [decide_eq_false_iff_not]; omega
  have hd1 : decide ((l.length : Int) < (n : Int)) = false := by rw [decide_eq_false_iff_not]; omega
  have hcap := h.R.le
  have hnc : (n : Int) ≤ (cap : Int) := by omega
  have HX := Lib.hid h
  clear h
  go_enter Tryz.func199, Tryz.ntmps199
  go_wp2_with fail
  go_ret
  have h := HX.out
  have ks : Kp [f] w (w.setCell ⟨f, 0, none⟩ (.slice (some ⟨g, 0, none⟩) n cap)) := (Kp.refl _ _).setCell (.inl (by simp)) _
  refine ⟨rfl, ⟨?_, (h.R.take n).kp ks (by simpa using h.n), h.n⟩, ks⟩
  have e : (l.take n).length = n := by rw [List.length_take]; omega
  rw [e]
  exact h.F.set_ 0 _

theorem limR_m (r : Nat) (W : World) : (method 424 51 (.pointer (some ⟨r, 0, none⟩)) "Read").run Tryz.prog W = .ok (204, .pointer (some ⟨r, 0, none⟩)) W := by kernel_rfl

set_option maxRecDepth 100000 in
set_option maxHeartbeats 4000000 in
theorem limRead (lr r g n c i N gd m kk : Nat) (l : List UInt8) (zs : List Value) (t : TypeId) (w : World) (hL : Blk w lr 138 #[.iface 51 (.pointer (some ⟨r, 0, none⟩)), .int .i64 (N : Nat)]) (hN : 0 < N) (hN2 : N ≤ 2147483647) (h : Rdr w r g 0 n c i) (hc : Bs w g 0 l) (hn : n = l.length) (hi : i + N ≤ n) (hnc : n ≤ c) (hl : l.length ≤ 2147483647)
    (hd : Blk w gd t zs.toArray) (hz : zs.length = m) (hm : 0 < m) (hm2 : m ≤ 1000000) (hk : kk = min m N) (hgr : gd ≠ r) (hgg : g ≠ gd) (hg : g ≠ r) (hlr : lr ≠ r) (hlg : lr ≠ gd) :
    Calls Tryz.prog 218 #[.pointer (some ⟨lr, 0, none⟩), .slice (some ⟨gd, 0, none⟩) m m] w fun e w' => e = .returned (.tuple #[.int .i64 (kk : Nat), .nilIface]) ∧
      Blk w' lr 138 #[.iface 51 (.pointer (some ⟨r, 0, none⟩)), .int .i64 ((N - kk : Nat) : Int)] ∧ Rdr w' r g 0 n c (i + kk) ∧ Blk w' gd t (Lib.byteCells ((l.drop i).take kk) ++ zs.drop kk).toArray ∧ Kp [lr, r, gd] w w' := by
  have q0 : w.cell? ⟨lr, 0, none⟩ = some (.iface 51 (.pointer (some ⟨r, 0, none⟩))) := hL.cell 0
  have q1 : w.cell? ⟨lr, 1, none⟩ = some (.int .i64 (N : Nat)) := hL.cell 1
  have hmr := limR_m r
  have hd0 : decide ((N : Int) ≤ 0) = false := by rw [decide_eq_false_iff_not]; omega
  have hkN : kk ≤ N := by omega
  have hrd : ∀ m', m' = min m N → Calls Tryz.prog 204 #[.pointer (some ⟨r, 0, none⟩), .slice (some ⟨gd, 0, none⟩) m' m] w fun e w' => e = .returned (.tuple #[.int .i64 (kk : Nat), .nilIface]) ∧ Rdr w' r g 0 n c (i + kk) ∧ Blk w' gd t (Lib.byteCells ((l.drop i).take kk) ++ zs.drop kk).toArray ∧ Kp [lr, r, gd] w w' := by
    intro m' hm'
    refine (rdRead_some r g 0 n c i gd 0 m' m kk l [] zs t w h hc hn (by omega) hnc hl hd rfl (by omega) (by omega) hgr hgg hg).mono ?_
    rintro e w' ⟨rfl, hR, hB, hK⟩
    exact ⟨rfl, hR, by simpa using hB, (hK w.heap.size [r, gd] (.inl (by simp)) (.inl (by simp))).kp (by simp)⟩
  have hL' := Lib.hid hL
  have hw : IntKind.i64.wrap ((N : Int) - (kk : Int)) = (N : Int) - (kk : Int) := by rw [IntKind.wrap_i64]; omega
  have eN := Lib.hid (show ((N - kk : Nat) : Int) = (N : Int) - (kk : Int) by omega)
  have hlrn : lr ∉ [r, gd] := by simp [hlr, hlg]
  have hLk : ∀ w', Kp [lr, r, gd] w w' → True := fun _ _ => trivial
  clear hLk
  have hrk : ∀ m', m' = min m N → Calls Tryz.prog 204 #[.pointer (some ⟨r, 0, none⟩), .slice (some ⟨gd, 0, none⟩) m' m] w fun e w' => e = .returned (.tuple #[.int .i64 (kk : Nat), .nilIface]) ∧ Blk w' lr 138 #[.iface 51 (.pointer (some ⟨r, 0, none⟩)), .int .i64 (N : Nat)] ∧ Rdr w' r g 0 n c (i + kk) ∧ Blk w' gd t (Lib.byteCells ((l.drop i).take kk) ++ zs.drop kk).toArray ∧ Kp [lr, r, gd] w w' := by
    intro m' hm'
    refine (rdRead_some r g 0 n c i gd 0 m' m kk l [] zs t w h hc hn (by omega) hnc hl hd rfl (by omega) (by omega) hgr hgg hg).mono ?_
    rintro e w' ⟨rfl, hR, hB, hK⟩
    have hk2 := (hK w.heap.size [r, gd] (.inl (by simp)) (.inl (by simp)))
    exact ⟨rfl, hL.kp (hk2.kp (l := [r, gd]) (by simp)) hlrn, hR, by simpa using hB, hk2.kp (by simp)⟩
  have HR := Lib.hid hrk
  have HK := Lib.hid hk
  clear hrd hrk hL h hc hd hk
  by_cases hmN : N < m
  · have hdm : decide ((N : Int) < (m : Int)) = true := by rw [decide_eq_true_eq]; omega
    have hNm : (N : Int) ≤ (m : Int) := by omega
    have HR2 := Lib.hid (HR.out N (by have := HK.out; omega))
    go_enter Tryz.func218, Tryz.ntmps218
    go_wp2_with fail
    refine HR2.out.mono ?_
    rintro e w1 ⟨rfl, L1, R1, B1, k1⟩
    have p1 : w1.cell? ⟨lr, 1, none⟩ = some (.int .i64 (N : Nat)) := L1.cell 1
    have f1 := L1.frozen 1
    have HX := Lib.hid (And.intro L1 (And.intro R1 (And.intro B1 k1)))
    clear L1 R1 B1 k1 q0 q1
    go_wp2_with fail
    go_ret2
    obtain ⟨L1, R1, B1, k1⟩ := HX.out
    obtain ⟨x, R1⟩ := R1
    rw [eN.out]
    exact ⟨rfl, L1.set_ 1 _, ⟨x, R1.far (p := ⟨lr, 1, none⟩) (fun h => hlr h.symm) _⟩, B1.far (p := ⟨lr, 1, none⟩) (fun h => hlg h.symm) _, k1.setCell (p := ⟨lr, 1, none⟩) (.inl (by simp)) _⟩
  · have hdm : decide ((N : Int) < (m : Int)) = false := by rw [decide_eq_false_iff_not]; omega
    have HR2 := Lib.hid (HR.out m (by have := HK.out; omega))
    go_enter Tryz.func218, Tryz.ntmps218
    go_wp2_with fail
    refine HR2.out.mono ?_
    rintro e w1 ⟨rfl, L1, R1, B1, k1⟩
    have p1 : w1.cell? ⟨lr, 1, none⟩ = some (.int .i64 (N : Nat)) := L1.cell 1
    have f1 := L1.frozen 1
    have HX := Lib.hid (And.intro L1 (And.intro R1 (And.intro B1 k1)))
    clear L1 R1 B1 k1 q0 q1
    go_wp2_with fail
    go_ret2
    obtain ⟨L1, R1, B1, k1⟩ := HX.out
    obtain ⟨x, R1⟩ := R1
    rw [eN.out]
    exact ⟨rfl, L1.set_ 1 _, ⟨x, R1.far (p := ⟨lr, 1, none⟩) (fun h => hlr h.symm) _⟩, B1.far (p := ⟨lr, 1, none⟩) (fun h => hlg h.symm) _, k1.setCell (p := ⟨lr, 1, none⟩) (.inl (by simp)) _⟩

set_option maxRecDepth 100000 in
theorem limEnd (lr r : Nat) (b : Value) (aE : Addr) (w : World) (hL : Blk w lr 138 #[.iface 51 (.pointer (some ⟨r, 0, none⟩)), .int .i64 0]) (hE : Ee w 2 aE) :
    Calls Tryz.prog 218 #[.pointer (some ⟨lr, 0, none⟩), b] w fun e w' => e = .returned (.tuple #[.int .i64 0, .iface 110 (.pointer (some aE))]) ∧ Kp [] w w' := by
  have q1 : w.cell? ⟨lr, 1, none⟩ = some (.int .i64 0) := hL.cell 1
  have qE : w.cell? ⟨2, 0, none⟩ = some (.iface 110 (.pointer (some aE))) := hE
  clear hL hE
  go_enter Tryz.func218, Tryz.ntmps218
  go_wp2_with fail
  go_quiet (fail)
  go_wp2_with fail
  go_ret2
  exact ⟨rfl, (Kp.refl _ _).drewN _⟩

set_option maxRecDepth 100000 in
theorem rdSeek (r g n c i k : Nat) (w : World) (h : Rdr w r g 0 n c i) :
    Calls Tryz.prog 206 #[.pointer (some ⟨r, 0, none⟩), .int .i64 (k : Nat), .int .i64 0] w fun e w' => e = .returned (.tuple #[.int .i64 (k : Nat), .nilIface]) ∧ Rdr w' r g 0 n c k ∧ Kp [r] w w' := by
  obtain ⟨p, h⟩ := h
  have q1 : w.cell? ⟨r, 1, none⟩ = some (.int .i64 (i : Nat)) := h.cell 1
  have q2 : w.cell? ⟨r, 2, none⟩ = some (.int .i64 p) := h.cell 2
  have f1 := h.frozen 1
  have f2 := h.frozen 2
  have hd0 : decide ((k : Int) < 0) = false := by rw [decide_eq_false_iff_not]; omega
  have HX := Lib.hid h
  clear h
  go_enter Tryz.func206, Tryz.ntmps206
  go_wp2_with fail
  go_ret2
  exact ⟨rfl, ⟨-1, (HX.out.set_ 2 _).set_ 1 _⟩, ((Kp.refl _ _).setCell (p := ⟨r, 2, none⟩) (.inl (by simp)) _).setCell (p := ⟨r, 1, none⟩) (.inl (by simp)) _⟩
end Go.Proofs.YtlafdmmjbkdkaaaGreatDoor
