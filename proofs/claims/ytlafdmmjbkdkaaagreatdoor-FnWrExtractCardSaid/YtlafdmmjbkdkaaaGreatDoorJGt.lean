/-
  cbor.Decoder.step_acceptValue over any text that begins with a map of two, the stack's row told. Conditions: as each contract says.
  carv1.zzDecodeHeader of a header of version 1. Conditions: as the contract says.
  The walk of spec.Car1. Conditions: as the contract says.
-/
import Derived.Test.YtlafdmmjbkdkaaaGreatDoorJGl
import Derived.Test.YtlafdmmjbkdkaaaGreatDoorGr
import Derived.Test.YtlafdmmjbkdkaaaGreatDoorNa
namespace Go.Proofs.YtlafdmmjbkdkaaaGreatDoor
open Go.RowKit

set_option maxRecDepth 100000 in
set_option maxHeartbeats 2000000 in
theorem push0_any (d s sk lf : Nat) (ll : Nat) (ph nph : Int) (k0 : Value) (rest : List Value) (w : World) (h : Blk w d 191 (decC s sk lf 0 ph ll)) (hk : Blk w sk 189 (k0 :: rest).toArray) (hds : d ≠ sk) :
    Calls Tryz.prog 136 #[.pointer (some ⟨d, 0, none⟩), .int .u8 nph] w fun e w' => e = .returned (.tuple #[]) ∧ Blk w' d 191 (decC s sk lf 1 nph ll) ∧
      Blk w' sk 189 (.int .u8 ph :: rest).toArray ∧ Kp [d, sk] w w' := by
  have q8 : w.cell? ⟨d, 8, none⟩ = some (.slice (some ⟨sk, 0, none⟩) 0 10) := h.cell 8
  have q9 : w.cell? ⟨d, 9, none⟩ = some (.int .u8 ph) := h.cell 9
  have c1 : w.cell? ⟨sk, 0, none⟩ = some k0 := hk.cell 0
  have g1 := hk.frozen 0
  have f8 := h.frozen 8
  have f9 := h.frozen 9
  have hsd : ¬ sk = d := fun e => hds e.symm
  have hds' : ¬ d = sk := hds
  have hdl := h.lt
  have hkl' := hk.lt
  obtain ⟨i0, hi0, hz0, hz1, hz2⟩ := info_parts infoPh
  go_enter Tryz.func136, Tryz.ntmps136
  go_wp2_with fail
  go_region_with (fail)
  all_goals go_wp2_with fail
  all_goals go_end0
  all_goals
    have h2 := (((h.far (p := ⟨sk, 0, none⟩) hds (.int .u8 ph)).set_ 8 (.slice (some ⟨sk, 0, none⟩) 1 10)).set_ 9 (.int .u8 nph)).alloc (.cells #[.int .u8 ph] 189)
    have h3 := (((hk.set_ 0 (.int .u8 ph)).far (p := ⟨d, 8, none⟩) hsd (.slice (some ⟨sk, 0, none⟩) 1 10)).far (p := ⟨d, 9, none⟩) hsd (.int .u8 nph)).alloc (.cells #[.int .u8 ph] 189)
    have k2 := ((((Kp.refl [d, sk] w).setCell (p := ⟨sk, 0, none⟩) (.inl (by simp)) (.int .u8 ph)).setCell (p := ⟨d, 8, none⟩) (.inl (by simp)) (.slice (some ⟨sk, 0, none⟩) 1 10)).setCell (p := ⟨d, 9, none⟩) (.inl (by simp)) (.int .u8 nph)).alloc (.cells #[.int .u8 ph] 189)
    exact ⟨rfl, h2.drew, h3.drew, k2.drew⟩
set_option maxRecDepth 100000 in
set_option maxHeartbeats 4000000 in
theorem help162k (d s sk lf tk : Nat) (ph : Int) (ty len u : Int) (str : List UInt8) (fl : Value) (k0 : Value) (kr ls : List Value) (w : World) (hD : Blk w d 191 (decC s sk lf 0 ph 0)) (hk : Blk w sk 189 (k0 :: kr).toArray) (hl : Blk w lf 3 ls.toArray) (hll : ls.length = 10)
    (hT : Blk w tk 153 (tokC ty len str u fl)) (hn : tk ≠ d ∧ tk ≠ sk ∧ tk ≠ lf ∧ d ≠ sk ∧ d ≠ lf ∧ sk ≠ lf) :
    Calls Tryz.prog 124 #[.pointer (some ⟨d, 0, none⟩), .int .u8 162, .pointer (some ⟨tk, 0, none⟩)] w fun e w' => e = .returned (.tuple #[.bool false, .nilIface]) ∧
      Blk w' tk 153 (tokC 123 2 str u fl) ∧ Blk w' d 191 (decC s sk lf 1 5 1) ∧ Blk w' lf 3 (.int .i64 2 :: ls.drop 1).toArray ∧ Blk w' sk 189 (.int .u8 ph :: kr).toArray ∧ Kp [tk, d, sk, lf] w w' := by
  obtain ⟨l0, lr, rfl⟩ : ∃ l0 lr, ls = l0 :: lr := by
    cases ls with
    | nil => simp at hll
    | cons a b => exact ⟨a, b, rfl⟩
  obtain ⟨i0, hi0, hz0, hz1, hz2⟩ := info_parts infoI
  obtain ⟨m1, m2, m3, m4, m5, m6⟩ := hn
  go_enter Tryz.func124, Tryz.ntmps124
  go_wp2_with fail
  refine (dl_of (.pointer (some ⟨d, 0, none⟩)) (.int .u8 162) 2 w (fun w' => w' = w) (by omega) (by omega) (duLow _ 162 2 w (by decide) (by omega) (by omega))).mono ?_
  rintro e w1 ⟨rfl, rfl⟩
  have q0 : w1.cell? ⟨tk, 0, none⟩ = some (.int .u8 ty) := hT.cell 0
  have q1 : w1.cell? ⟨tk, 1, none⟩ = some (.int .i64 len) := hT.cell 1
  have f0 := hT.frozen 0
  have f1 := hT.frozen 1
  have d10 : w1.cell? ⟨d, 10, none⟩ = some (.slice (some ⟨lf, 0, none⟩) 0 10) := hD.cell 10
  have g10 := hD.frozen 10
  have c0 : w1.cell? ⟨lf, 0, none⟩ = some l0 := hl.cell 0
  have g0 := hl.frozen 0
  have z1 := hD.lt
  have z2 := hl.lt
  have z3 := hT.lt
  have n1 : ¬ d = tk := fun h => m1 h.symm
  have n2 : ¬ lf = tk := fun h => m3 h.symm
  have n3 : ¬ lf = d := fun h => m5 h.symm
  go_wp2_with fail
  have kw : Kp [tk, d, lf] w1 (((((w1.setCell ⟨tk, 0, none⟩ (.int .u8 123)).setCell ⟨tk, 1, none⟩ (.int .i64 2)).setCell ⟨lf, 0, none⟩ (.int .i64 2)).setCell ⟨d, 10, none⟩ (.slice (some ⟨lf, 0, none⟩) 1 10)).alloc (.cells #[.int .i64 2] 3)) :=
    (((((Kp.refl [tk, d, lf] w1).setCell (p := ⟨tk, 0, none⟩) (.inl (by simp)) _).setCell (p := ⟨tk, 1, none⟩) (.inl (by simp)) _).setCell (p := ⟨lf, 0, none⟩) (.inl (by simp)) _).setCell (p := ⟨d, 10, none⟩) (.inl (by simp)) _).alloc _
  have tw : Blk (((((w1.setCell ⟨tk, 0, none⟩ (.int .u8 123)).setCell ⟨tk, 1, none⟩ (.int .i64 2)).setCell ⟨lf, 0, none⟩ (.int .i64 2)).setCell ⟨d, 10, none⟩ (.slice (some ⟨lf, 0, none⟩) 1 10)).alloc (.cells #[.int .i64 2] 3)) tk 153 (tokC 123 2 str u fl) :=
    ((((hT.set_ 0 _).set_ 1 _).far (p := ⟨lf, 0, none⟩) m3 _).far (p := ⟨d, 10, none⟩) m1 _).alloc _
  have dw : Blk (((((w1.setCell ⟨tk, 0, none⟩ (.int .u8 123)).setCell ⟨tk, 1, none⟩ (.int .i64 2)).setCell ⟨lf, 0, none⟩ (.int .i64 2)).setCell ⟨d, 10, none⟩ (.slice (some ⟨lf, 0, none⟩) 1 10)).alloc (.cells #[.int .i64 2] 3)) d 191 (decC s sk lf 0 ph 1) :=
    ((((hD.far (p := ⟨tk, 0, none⟩) n1 _).far (p := ⟨tk, 1, none⟩) n1 _).far (p := ⟨lf, 0, none⟩) m5 _).set_ 10 _).alloc _
  have lw : Blk (((((w1.setCell ⟨tk, 0, none⟩ (.int .u8 123)).setCell ⟨tk, 1, none⟩ (.int .i64 2)).setCell ⟨lf, 0, none⟩ (.int .i64 2)).setCell ⟨d, 10, none⟩ (.slice (some ⟨lf, 0, none⟩) 1 10)).alloc (.cells #[.int .i64 2] 3)) lf 3 (.int .i64 2 :: lr).toArray :=
    ((((hl.far (p := ⟨tk, 0, none⟩) n2 _).far (p := ⟨tk, 1, none⟩) n2 _).set_ 0 _).far (p := ⟨d, 10, none⟩) n3 _).alloc _
  have sw := hk.kp kw (by simp; omega)
  clear q0 q1 f0 f1 d10 g10 c0 g0 hD hT hl hk
  generalize (((((w1.setCell ⟨tk, 0, none⟩ (.int .u8 123)).setCell ⟨tk, 1, none⟩ (.int .i64 2)).setCell ⟨lf, 0, none⟩ (.int .i64 2)).setCell ⟨d, 10, none⟩ (.slice (some ⟨lf, 0, none⟩) 1 10)).alloc (.cells #[.int .i64 2] 3)) = w2 at *
  refine (push0_any d s sk lf 1 ph 5 k0 kr w2 dw sw m4).mono ?_
  rintro e w3 ⟨rfl, D3, K3, k3⟩
  have T3 := tw.kp k3 (by simp; omega)
  have L3 := lw.kp k3 (by simp; omega)
  have k13 : Kp [tk, d, sk, lf] w1 w3 := (kw.weaken (l' := [tk, d, sk, lf]) (by intro i hi; left; simp at hi; simp; omega)).step k3 (by intro i hi; left; simp at hi; simp; omega)
  have HH := Lib.hid (And.intro T3 (And.intro D3 (And.intro L3 (And.intro K3 k13))))
  clear T3 D3 K3 L3 k13 kw tw dw lw sw k3
  go_wp2_with fail
  go_ret2
  exact ⟨rfl, HH.out⟩
set_option maxRecDepth 100000 in
set_option maxHeartbeats 4000000 in
theorem stValK (T : List UInt8) (d s q r g c sk lf tk : Nat) (m : Int) (aE : Addr) (ty len u : Int) (str : List UInt8) (fl : Value) (k0 : Value) (kr ls : List Value) (w : World) (hd : Dis d s q r g sk lf tk) (hD : Blk w d 191 (decC s sk lf 0 0 0)) (hk : Blk w sk 189 (k0 :: kr).toArray) (hl : Blk w lf 3 ls.toArray) (hll : ls.length = 10)
    (hT : Blk w tk 153 (tokC ty len str u fl)) (hS : StrG w s q r g c T aE 0 m) (hi0 : 0 < T.length) (hz : ((T[0]'hi0).toNat : Int) = 162) (hm : 0 ≤ m ∧ m ≤ 100) :
    Calls Tryz.prog 95 #[.pointer (some ⟨d, 0, none⟩), .pointer (some ⟨tk, 0, none⟩)] w fun e w' => e = .returned (.tuple #[.bool false, .nilIface]) ∧
      Blk w' tk 153 (tokC 123 2 str u fl) ∧ Blk w' d 191 (decC s sk lf 1 5 1) ∧ Blk w' lf 3 (.int .i64 2 :: ls.drop 1).toArray ∧ Blk w' sk 189 (.int .u8 0 :: kr).toArray ∧ StrG w' s q r g c T aE 1 (m + 1) ∧ Kp [tk, d, sk, lf, s, q, r] w w' := by
  have hmr := srn_m s
  have HM1 : 0 ≤ m ∧ m ≤ 1000000 := by omega
  have HM := hm
  have HM8 : m + 1 + 7 = m + 8 := by omega
  obtain ⟨⟨x1, x2, x3, x4, x5, x6, x7⟩, ⟨y1, y2, y3, y4, y5, y6⟩, ⟨z1, z2, z3, z4, z5⟩, ⟨t1, t2, t3, t4⟩, ⟨e1, e2, e3, e4⟩⟩ := hd
  obtain ⟨n1, n2, n3, n4, n5, n6⟩ := hS.n
  obtain ⟨j1, j2, j3⟩ := hS.e
  have q7 : w.cell? ⟨d, 7, none⟩ = some (.iface 218 (.pointer (some ⟨s, 0, none⟩))) := hD.cell 7
  have HR := Lib.hid (readn1_strG s q r g c 0 m 162 T aE w hS hi0 HM1 hz)
  have HD := Lib.hid (And.intro hD (And.intro hk (And.intro hl hT)))
  clear hD hk hl hT hS hz
  go_enter Tryz.func95, Tryz.ntmps95
  go_wp2_with fail
  refine HR.out.mono ?_
  rintro e w1 ⟨rfl, S1, k1⟩
  have D1 := HD.out.1.kp k1 (by simp [x1, x2, x3])
  have K1 := HD.out.2.1.kp k1 (by simp [y1, y2, y3])
  have L1 := HD.out.2.2.1.kp k1 (by simp [z1, z2, z3])
  have T1 := HD.out.2.2.2.kp k1 (by simp [t1, t2, t3])
  have t8 : w1.cell? ⟨tk, 8, none⟩ = some (.bool false) := T1.cell 8
  have f8 := T1.frozen 8
  have HW := Lib.hid k1
  clear q7 k1
  go_wp2_with fail
  have k2 := (Kp.refl [tk] w1).setCell (p := ⟨tk, 8, none⟩) (.inl (by simp)) (.bool false)
  have T2 : Blk (w1.setCell ⟨tk, 8, none⟩ (.bool false)) tk 153 (tokC ty len str u fl) := T1.set_ 8 _
  have D2 := D1.kp k2 (by simp [x7])
  have K2 := K1.kp k2 (by simp [y6])
  have L2 := L1.kp k2 (by simp [z5])
  have S2 := S1.kp k2 (by simp [e4, t1.symm, t2.symm, t3.symm, t4.symm])
  clear t8 f8 T1 D1 K1 L1 S1
  generalize w1.setCell ⟨tk, 8, none⟩ (.bool false) = w2 at *
  have hh := help162k d s sk lf tk 0 ty len u str fl k0 kr ls w2 D2 K2 L2 hll T2 (by simp [x5, x6, y5, x7.symm, y6.symm, z5.symm])
  refine hh.mono ?_
  rintro e w3 ⟨rfl, T3, D3, L3, K3, k3⟩
  have S3 := S2.kp k3 (by simp [e1, e2, e3, e4, x1.symm, x2.symm, x3.symm, x4.symm, y1.symm, y2.symm, y3.symm, y4.symm, z1.symm, z2.symm, z3.symm, z4.symm, t1.symm, t2.symm, t3.symm, t4.symm])
  have k13 : Kp [tk, d, sk, lf, s, q, r] w w3 := ((HW.out.weaken (l' := [tk, d, sk, lf, s, q, r]) (by simp)).step k2 (by simp)).step k3 (by simp)
  have HH := Lib.hid (And.intro T3 (And.intro D3 (And.intro L3 (And.intro K3 (And.intro S3 k13)))))
  clear T3 D3 L3 K3 S3 k13 hh T2 D2 K2 L2 S2 k3 k2
  go_wp2_with fail
  go_ret2
  exact ⟨rfl, HH.out⟩

end Go.Proofs.YtlafdmmjbkdkaaaGreatDoor

namespace Go.Proofs.YtlafdmmjbkdkaaaGreatDoor
open Go.RowKit

/-- Behind the map's opening. -/
structure SvA (T : List UInt8) (tk d s q r g c sk lf ch : Nat) (aE : Addr) (kr lr : List Value) (w wr : World) : Prop where
  fT : Blk wr tk 153 (tokC 123 2 [] 0 (.float .f64 0))
  fD : Blk wr d 191 (decC s sk lf 1 5 1)
  fL : Blk wr lf 3 (.int .i64 2 :: .int .i64 0 :: lr).toArray
  fK : Blk wr sk 189 (.int .u8 0 :: .int .u8 0 :: kr).toArray
  fS : StrG wr s q r g c T aE 1 1
  fH : Blk wr ch 109 (chC 0)
  fb : Below w.heap.size w wr
/-- Behind the roots. -/
structure SvB (T : List UInt8) (j tk d s q r g c sk lf ch : Nat) (aE : Addr) (lr : List Value) (w wr : World) : Prop where
  fT : Blk wr tk 153 (tokC 115 0 [114, 111, 111, 116, 115] 0 (.float .f64 0))
  fD : Blk wr d 191 (decC s sk lf 1 5 1)
  fL : ∃ l1, Blk wr lf 3 (.int .i64 1 :: l1 :: lr).toArray
  fS : StrG wr s q r g c T aE j (j : Int)
  fH : ∃ rg n cap, Blk wr ch 109 #[.slice (some ⟨rg, 0, none⟩) n cap, .int .u64 0]
  fb : Kp [ch] w wr
/-- Behind the version. -/
structure SvC (tk d s sk lf ch : Nat) (lr : List Value) (w wr : World) : Prop where
  fT : Blk wr tk 153 (tokC 117 0 [] 1 (.float .f64 0))
  fD : Blk wr d 191 (decC s sk lf 1 5 1)
  fL : ∃ l1, Blk wr lf 3 (.int .i64 0 :: l1 :: lr).toArray
  fH : ∃ rg n cap, Blk wr ch 109 #[.slice (some ⟨rg, 0, none⟩) n cap, .int .u64 1]
  fb : Kp [ch] w wr

theorem hdT_len (L : List CidL) (h : ∀ x ∈ L, x.tidy ∧ x.digest.length ≤ 200) (hn : L.length ≤ 100) : (hdT (wrR L)).length ≤ 40000 := by
  have := lksB_le (wrR L) 255 (fun b hb => by
    obtain ⟨x, hx, rfl⟩ := List.mem_map.1 hb
    have := wr_lt255 (h x hx).1 (h x hx).2
    omega)
  rw [wrR_len] at this
  unfold hdT
  simp only [List.length_cons, List.length_append, List.length_nil, hdL_len]
  have := hdJ_le (wrR L).length
  have : L.length * (255 + 5) ≤ 100 * 260 := Nat.mul_le_mul hn (by omega)
  omega

set_option maxRecDepth 100000 in
set_option maxHeartbeats 8000000 in
theorem decHead1 (T : List UInt8) (L : List CidL) (g c ch : Nat) (aE : Addr) (w w0 : World) (hn : L.length ≤ 100) (hL : ∀ x ∈ L, x.tidy ∧ x.digest.length ≤ 200) (hT : T = hdT (wrR L)) (hcc : T.length ≤ c) (hC : Bs w g 0 T) (hch : Blk w ch 109 (chC 0)) (hE : Ee w 2 aE) (hgl : g < w.heap.size) (hEc : 2 ≠ ch) (hgc : g ≠ ch)
    (h0 : Below w0.heap.size w0 w) (hE5 : E5 w0) (hch0 : w0.heap.size ≤ ch) :
    Calls Tryz.prog 73 #[.slice (some ⟨g, 0, none⟩) T.length c, .pointer (some ⟨ch, 0, none⟩)] w fun e w' => e = .returned .nilIface ∧ (∃ rg n cap, Blk w' ch 109 #[.slice (some ⟨rg, 0, none⟩) n cap, .int .u64 1]) ∧ Kp [ch] w w' := by
  have hTl : T.length ≤ 40000 := by rw [hT]; exact hdT_len L hL hn
  have hd0 : T.drop 0 = 162 :: (T.drop 1) := by rw [hT]; rfl
  have hd1 : T.drop 1 = 101 :: (T.drop 2) := by rw [hT]; rfl
  have hd2 : (T.drop (1 + 1)).take (4 + 1) = [114, 111, 111, 116, 115] := by rw [hT]; rfl
  have hd7 : T.drop 7 = hdL 128 L.length ++ (lksB (wrR L) ++ [103, 118, 101, 114, 115, 105, 111, 110, 1]) := by rw [hT, ← wrR_len L]; rfl
  obtain ⟨j, hj⟩ : ∃ j, 7 + 1 + hdJ L.length + (lksB (wrR L)).length = j := ⟨_, rfl⟩
  have hdj : T.drop j = [103, 118, 101, 114, 115, 105, 111, 110, 1] := by
    have h1 := drop_app (drop_app hd7)
    rw [hdL_len] at h1
    rw [← hj, ← h1]
    congr 1
    omega
  have hjl := drop_len hdj (by simp)
  simp only [List.length_cons, List.length_nil] at hjl
  obtain ⟨i0, e0⟩ := at_drop hd0
  obtain ⟨i1, e1⟩ := at_drop hd1
  obtain ⟨ij, ej⟩ := at_drop hdj
  have hdj1 := drop_tail hdj
  have hj7 : (T.drop (j + 1)).take (6 + 1) = verB := by rw [hdj1]; rfl
  have hj8 : T.drop (j + 8) = [1] := by rw [← List.drop_drop, hdj]; rfl
  obtain ⟨i8, e8⟩ := at_drop hj8
  have hcl := hch.lt
  have hEl := hE.lt
  have HI := Lib.hid (And.intro hC (And.intro hch (And.intro hE (And.intro hEc (And.intro hgc (And.intro h0 (And.intro hE5 (And.intro hL hn))))))))
  have HJ := Lib.hid (And.intro e0 (And.intro e1 (And.intro hd2 (And.intro hd7 (And.intro hj (And.intro ej (And.intro hj7 e8)))))))
  clear hC hch hE hEc hgc h0 hE5 hL hT e0 e1 hd0 hd1 hd2 hd7 hj ej hj7 e8 hdj hdj1 hj8
  go_enter Tryz.func73, Tryz.ntmps73
  go_wp2_with fail
  refine (newReader_any g 0 T.length c w).mono ?_
  rintro e w1 ⟨rfl, R1, b1⟩
  go_wp2_with fail
  obtain ⟨r, hr⟩ : ∃ r, w.heap.size = r := ⟨_, rfl⟩
  rw [hr] at R1
  simp only [hr]
  refine (newDec r w1).mono ?_
  rintro e w2 ⟨d, s, q, sk, lf, rfl, DN, b2⟩
  go_wp2_with fail
  obtain ⟨tk, htk⟩ : ∃ tk, w2.heap.size = tk := ⟨_, rfl⟩
  have T3 : Blk (w2.alloc (.cells #[.int .u8 0, .int .i64 0, .string ⟨#[]⟩, .slice none 0 0, .bool false, .int .i64 0, .int .u64 0, .float .f64 0, .bool false, .int .i64 0] 153)) tk 153 (tokC 0 0 [] 0 (.float .f64 0)) := by rw [← htk]; exact Blk.new _ _ _
  have b3 := Old.alloc (Below.refl w2.heap.size w2) (.cells #[.int .u8 0, .int .i64 0, .string ⟨#[]⟩, .slice none 0 0, .bool false, .int .i64 0, .int .u64 0, .float .f64 0, .bool false, .int .i64 0] 153)
  simp only [htk]
  have rl := R1.lt
  have l1 := b2.size
  have m1 := DN.D.lt
  have m2 := DN.S.lt
  have m3 := DN.Q.lt
  have m4 := DN.K.lt
  have m5 := DN.L.lt
  have hD : Dis d s q r g sk lf tk := by
    obtain ⟨B1, B2, B3, B4, B5⟩ := DN.b
    obtain ⟨n1, n2, n3, n4, n5, n6, n7, n8, n9, n10⟩ := Lib.hid DN.n |>.out
    have N := Lib.hid (And.intro n1 (And.intro n2 (And.intro n3 (And.intro n4 (And.intro n5 (And.intro n6 (And.intro n7 (And.intro n8 (And.intro n9 n10)))))))))
    clear n1 n2 n3 n4 n5 n6 n7 n8 n9 n10
    obtain ⟨n1, n2, n3, n4, n5, n6, n7, n8, n9, n10⟩ := N.out
    exact ⟨⟨n1, n2, (by clear n1 n2 n3 n4 n5 n6 n7 n8 n9 n10; omega), (by clear n1 n2 n3 n4 n5 n6 n7 n8 n9 n10; omega), n3, n4, (by clear n1 n2 n3 n4 n5 n6 n7 n8 n9 n10; omega)⟩,
      ⟨n6, n7, (by clear n1 n2 n3 n4 n5 n6 n7 n8 n9 n10; omega), (by clear n1 n2 n3 n4 n5 n6 n7 n8 n9 n10; omega), n8, (by clear n1 n2 n3 n4 n5 n6 n7 n8 n9 n10; omega)⟩,
      ⟨n9, n10, (by clear n1 n2 n3 n4 n5 n6 n7 n8 n9 n10; omega), (by clear n1 n2 n3 n4 n5 n6 n7 n8 n9 n10; omega), (by clear n1 n2 n3 n4 n5 n6 n7 n8 n9 n10; omega)⟩,
      (by clear n1 n2 n3 n4 n5 n6 n7 n8 n9 n10; omega), (by clear n1 n2 n3 n4 n5 n6 n7 n8 n9 n10; omega)⟩
  have ub : (r ≤ d ∧ r ≤ s ∧ r ≤ q ∧ r ≤ sk ∧ r ≤ lf ∧ r ≤ tk) := by have := DN.b; omega
  have b13 : Below w.heap.size w (w2.alloc (.cells #[.int .u8 0, .int .i64 0, .string ⟨#[]⟩, .slice none 0 0, .bool false, .int .i64 0, .int .u64 0, .float .f64 0, .bool false, .int .i64 0] 153)) := Old.trans (Old.trans b1 b2) b3
  have Str3 : StrG (w2.alloc (.cells #[.int .u8 0, .int .i64 0, .string ⟨#[]⟩, .slice none 0 0, .bool false, .int .i64 0, .int .u64 0, .float .f64 0, .bool false, .int .i64 0] 153)) s q r g c T aE 0 0 := by
    have hb := DN.b
    refine ⟨slNew_B (DN.S.alloc _), ⟨0, 0, 0, rfl, DN.Q.alloc _⟩, (R1.old b2).old b3, HI.out.1.old b13, HI.out.2.2.1.old b13, hcc, by omega, ⟨by omega, by omega, by omega, by omega, DN.n.2.2.2.2.1, by omega⟩, ⟨by omega, by omega, by omega⟩⟩
  have D3 := DN.D.alloc (.cells #[.int .u8 0, .int .i64 0, .string ⟨#[]⟩, .slice none 0 0, .bool false, .int .i64 0, .int .u64 0, .float .f64 0, .bool false, .int .i64 0] 153)
  have K3 := DN.K.alloc (.cells #[.int .u8 0, .int .i64 0, .string ⟨#[]⟩, .slice none 0 0, .bool false, .int .i64 0, .int .u64 0, .float .f64 0, .bool false, .int .i64 0] 153)
  have L3 := DN.L.alloc (.cells #[.int .u8 0, .int .i64 0, .string ⟨#[]⟩, .slice none 0 0, .bool false, .int .i64 0, .int .u64 0, .float .f64 0, .bool false, .int .i64 0] 153)
  have H3 := HI.out.2.1.old b13
  have hsv := stValK T d s q r g c sk lf tk 0 aE 0 0 0 [] (.float .f64 0) _ _ _ (w2.alloc (.cells #[.int .u8 0, .int .i64 0, .string ⟨#[]⟩, .slice none 0 0, .bool false, .int .i64 0, .int .u64 0, .float .f64 0, .bool false, .int .i64 0] 153)) hD D3 K3 L3 (by simp) T3 Str3 i0 (by rw [HJ.out.1]; rfl) (by omega)
  refine (stepVal d s sk lf tk 0 0 _ _ D3 hsv).mono ?_
  rintro e w4 ⟨rfl, T4, D4, L4, K4, S4, k4⟩
  have kk4 : Below w.heap.size w w4 := below_kp b13 k4 b13.size (by intro i hi; simp at hi; omega)
  have H4 := H3.kp k4 (by simp; omega)
  have A4 : SvA T tk d s q r g c sk lf ch aE (List.replicate 8 (.int .u8 0)) (List.replicate 8 (.int .i64 0)) w w4 := ⟨T4, D4, L4, K4, S4, H4, kk4⟩
  have q0 : w4.cell? ⟨tk, 0, none⟩ = some (.int .u8 123) := T4.cell 0
  have HA := Lib.hid A4
  have hrle : w.heap.size ≤ r := by omega
  have hcr : ch < r := by omega
  have HD := Lib.hid hD
  clear A4 hD T3 b3 m1 m2 m3 m4 m5 b13 Str3 D3 K3 L3 H3 hsv T4 D4 L4 K4 S4 k4 kk4 H4 R1 b1 DN b2 hr htk l1 rl
  go_wp2_with fail
  clear q0
  obtain ⟨kr, hkr⟩ : ∃ kr : List Value, List.replicate 8 (.int .u8 0) = kr := ⟨_, rfl⟩
  obtain ⟨lr, hlr⟩ : ∃ lr : List Value, List.replicate 8 (.int .i64 0) = lr := ⟨_, rfl⟩
  rw [hkr, hlr] at HA
  clear hkr hlr
  go_loopw [7, 8] (fun x e wr => x = .bool false ∧ e = .nilIface ∧ (SvA T tk d s q r g c sk lf ch aE kr lr w wr ∨ SvB T j tk d s q r g c sk lf ch aE lr w wr ∨ SvC tk d s sk lf ch lr w wr)) (fun _ _ wr => (intOf ((wr.cell? ⟨lf, 0, none⟩).getD undef)).toNat)
  case atStart => exact ⟨rfl, rfl, .inl HA.out⟩
  case round =>
    clear HA
    obtain ⟨rfl, rfl, A | B | C⟩ := hrel
    · have hgrow : wr.heap[tk]? = some (.cells (tokC 123 2 [] 0 (.float .f64 0)) 153 (0, 0)) := A.fT
      have HX := Lib.hid A
      clear A
      go_wp2_with (refine wpList_store_row rfl 153 _ _ rfl tk zT.toArray rfl rfl 153 _ hgrow zT_size rfl zT_one ?_)
      clear hgrow
      have hx := HD.out
      have ZX : Blk (wr.setRow tk zT.toArray) tk 153 (tokC 0 0 [] 0 (.float .f64 0)) := row_zero HX.out.fT
      have kzX : Kp [tk] wr (wr.setRow tk zT.toArray) := kp_row wr tk _
      generalize wr.setRow tk zT.toArray = X at *
      have DX := HX.out.fD.kp kzX (by simp [hx.dd.2.2.2.2.2.2])
      have LX := HX.out.fL.kp kzX (by simp [hx.ll.2.2.2.2])
      have KX := HX.out.fK.kp kzX (by simp [hx.kk.2.2.2.2.2])
      have SX := HX.out.fS.kp kzX (by simp [hx.tt.1.symm, hx.tt.2.1.symm, hx.tt.2.2.1.symm, hx.tt.2.2.2.symm, hx.ee.2.2.2])
      have HcX := HX.out.fH.kp kzX (by simp; omega)
      have bX : Below w.heap.size w X := below_kp HX.out.fb kzX HX.out.fb.size (by simp; omega)
      have hsk := stKeyG T [114, 111, 111, 116, 115] 101 1 0 (.slice none 0 0) 1 4 d s q r g c sk lf tk 1 aE 0 0 0 [] (.float .f64 0) (.int .i64 0 :: lr) X hx DX LX (by omega) (by omega) ZX SX i1 (by rw [HJ.out.2.1]; rfl) (by omega) (by omega) (by decide) (by omega) (by omega) HJ.out.2.2.1 (by omega)
      refine (stepKey d s sk lf tk 1 1 X _ DX hsk).mono ?_
      rintro e y ⟨rfl, T5, D5, L5, S5, k5⟩
      have K5 := KX.kp k5 (by simp [hx.kk.1, hx.kk.2.1, hx.kk.2.2.1, hx.kk.2.2.2.2.1, hx.kk.2.2.2.2.2, hx.dd.2.2.2.2.1.symm])
      have H5 := HcX.kp k5 (by simp; omega)
      have b5 : Below w.heap.size w y := below_kp bX k5 bX.size (by intro i hi; simp at hi; omega)
      have q0 : y.cell? ⟨tk, 0, none⟩ = some (.int .u8 115) := T5.cell 0
      have q2 : y.cell? ⟨tk, 2, none⟩ = some (.string ⟨#[114, 111, 111, 116, 115]⟩) := T5.cell 2
      have HY := Lib.hid (And.intro T5 (And.intro D5 (And.intro L5 (And.intro S5 (And.intro K5 (And.intro H5 b5))))))
      clear T5 D5 L5 S5 K5 H5 b5 ZX kzX DX LX KX SX HcX bX k5 hx hsk
      go_wp2_with fail
      clear q0 q2
      obtain ⟨T5, D5, L5, S5, K5, H5, b5⟩ := HY.out
      have hx := HD.out
      have b05 : Below w0.heap.size w0 y := Old.trans HI.out.2.2.2.2.2.1 b5
      have hrt := decRoots T [103, 118, 101, 114, 115, 105, 111, 110, 1] L 7 d s q r g c sk lf ch tk aE (.int .u8 0) (.int .u8 0) (.int .i64 1) (.int .i64 0) (.int .u64 0) kr lr y w0 HI.out.2.2.2.2.2.2.2.2 HI.out.2.2.2.2.2.2.2.1 (by omega) HJ.out.2.2.2.1 hx D5 K5 L5 S5 H5
        ⟨by omega, by omega, by omega, by omega, fun h => HI.out.2.2.2.2.1 h.symm, by omega, by omega, HI.out.2.2.2.1⟩ (by have := b5.size; omega) b05 HI.out.2.2.2.2.2.2.1 (by intro x hxm; simp at hxm; have := HI.out.2.2.2.2.2.1.size; omega)
      rw [HJ.out.2.2.2.2.1] at hrt
      refine hrt.mono ?_
      rintro e z ⟨rfl, D6, L6, K6, S6, H6, k6⟩
      have T6 := T5.kp k6 (by simp [hx.dd.2.2.2.2.2.2.symm, hx.kk.2.2.2.2.2.symm, hx.ll.2.2.2.2.symm, hx.tt]; omega)
      have b6 : Kp [ch] w z := (Kp.of_below b5 [ch]).step k6 (by intro i hi; simp at hi; simp; omega)
      have e1 : wr.cell? ⟨lf, 0, none⟩ = some (.int .i64 2) := HX.out.fL.cell 0
      have e2 : z.cell? ⟨lf, 0, none⟩ = some (.int .i64 1) := L6.cell 0
      have HZ := Lib.hid (And.intro (show SvB T j tk d s q r g c sk lf ch aE lr w z from ⟨T6, D6, ⟨_, L6⟩, S6, H6, b6⟩) (And.intro e1 e2))
      clear T6 D6 L6 K6 S6 H6 b6 e1 e2 k6 hrt T5 D5 L5 S5 K5 H5 b5 b05 hx
      go_wp2_with fail
      refine ⟨⟨rfl, rfl, .inr (.inl HZ.out.1)⟩, ?_⟩
      rw [HZ.out.2.1, HZ.out.2.2]
      simp [intOf]
    · have hgrow : wr.heap[tk]? = some (.cells (tokC 115 0 [114, 111, 111, 116, 115] 0 (.float .f64 0)) 153 (0, 0)) := B.fT
      have HX := Lib.hid B
      clear B
      go_wp2_with (refine wpList_store_row rfl 153 _ _ rfl tk zT.toArray rfl rfl 153 _ hgrow zT_size rfl zT_one ?_)
      clear hgrow
      have hx := HD.out
      have ZX : Blk (wr.setRow tk zT.toArray) tk 153 (tokC 0 0 [] 0 (.float .f64 0)) := row_zero HX.out.fT
      have kzX : Kp [tk] wr (wr.setRow tk zT.toArray) := kp_row wr tk _
      generalize wr.setRow tk zT.toArray = X at *
      obtain ⟨l1, L0⟩ := HX.out.fL
      obtain ⟨rg, rn, rc, H0⟩ := HX.out.fH
      have e1 : wr.cell? ⟨lf, 0, none⟩ = some (.int .i64 1) := L0.cell 0
      have DX := HX.out.fD.kp kzX (by simp [hx.dd.2.2.2.2.2.2])
      have LX := L0.kp kzX (by simp [hx.ll.2.2.2.2])
      have SX := HX.out.fS.kp kzX (by simp [hx.tt.1.symm, hx.tt.2.1.symm, hx.tt.2.2.1.symm, hx.tt.2.2.2.symm, hx.ee.2.2.2])
      have HcX := H0.kp kzX (by simp; omega)
      have bX : Kp [ch] w X := HX.out.fb.step kzX (by simp; omega)
      have hsk := stKeyG T verB 103 0 0 (.slice none 0 0) j 6 d s q r g c sk lf tk (j : Int) aE 0 0 0 [] (.float .f64 0) (l1 :: lr) X hx DX LX (by omega) (by omega) ZX SX ij (by rw [HJ.out.2.2.2.2.2.1]; rfl) (by omega) (by omega) (by decide) (by omega) (by omega) HJ.out.2.2.2.2.2.2.1 (by omega)
      refine (stepKey d s sk lf tk 1 1 X _ DX hsk).mono ?_
      rintro e y ⟨rfl, T5, D5, L5, S5, k5⟩
      have H5 := HcX.kp k5 (by simp; omega)
      have b5 : Kp [ch] w y := bX.step k5 (by intro i hi; simp at hi; simp; omega)
      have hgrow : y.heap[tk]? = some (.cells (tokC 115 0 verB 0 (.float .f64 0)) 153 (0, 0)) := T5
      have q0 : y.cell? ⟨tk, 0, none⟩ = some (.int .u8 115) := T5.cell 0
      have q2 : y.cell? ⟨tk, 2, none⟩ = some (.string ⟨#[118, 101, 114, 115, 105, 111, 110]⟩) := T5.cell 2
      have HY := Lib.hid (And.intro T5 (And.intro D5 (And.intro L5 (And.intro S5 (And.intro H5 (And.intro b5 e1))))))
      clear T5 D5 L5 S5 H5 b5 ZX kzX DX LX SX HcX bX k5 hx hsk L0 H0 e1
      go_wp2_with (refine wpList_store_row rfl 153 _ _ rfl tk zT.toArray rfl rfl 153 _ hgrow zT_size rfl zT_one ?_)
      clear hgrow q0 q2
      obtain ⟨T, D, L, S, H, b, e1⟩ := HY.out
      have ZY : Blk (y.setRow tk zT.toArray) tk 153 (tokC 0 0 [] 0 (.float .f64 0)) := row_zero T
      have kzY : Kp [tk] y (y.setRow tk zT.toArray) := kp_row y tk _
      generalize y.setRow tk zT.toArray = Y at *
      have hx := HD.out
      have DY := D.kp kzY (by simp [hx.dd.2.2.2.2.2.2])
      have LY := L.kp kzY (by simp [hx.ll.2.2.2.2])
      have SY := S.kp kzY (by simp [hx.tt.1.symm, hx.tt.2.1.symm, hx.tt.2.2.1.symm, hx.tt.2.2.2.symm, hx.ee.2.2.2])
      have HcY := H.kp kzY (by simp; omega)
      have bY : Kp [ch] w Y := b.step kzY (by simp; omega)
      refine (stepMap d s sk lf tk 1 1 Y _ DY (stMap1 _ (j + 1 + (6 + 1)) d s q r g c sk lf tk ((j : Int) + 1 + (6 + 1)) aE 0 0 0 [] (.float .f64 0) Y hx DY ZY SY (by omega) (by have := HJ.out.2.2.2.2.2.2.2; simp only [show j + 1 + (6 + 1) = j + 8 from rfl, this]; rfl) (by omega))).mono ?_
      rintro e z ⟨rfl, T6, D6, k6⟩
      have L6 := LY.kp k6 (by simp [hx.ll.1, hx.ll.2.1, hx.ll.2.2.1, hx.ll.2.2.2.2, hx.dd.2.2.2.2.2.1.symm])
      have H6 := HcY.kp k6 (by simp; omega)
      have b6 : Kp [ch] w z := bY.step k6 (by intro i hi; simp at hi; simp; omega)
      have q0 : z.cell? ⟨tk, 0, none⟩ = some (.int .u8 117) := T6.cell 0
      have q6 : z.cell? ⟨tk, 6, none⟩ = some (.int .u64 1) := T6.cell 6
      have p1 : z.cell? ⟨ch, 1, none⟩ = some (.int .u64 0) := H6.cell 1
      have fp := H6.frozen 1
      have HZ := Lib.hid (And.intro T6 (And.intro D6 (And.intro L6 (And.intro H6 (And.intro b6 e1)))))
      clear T D L S H b T6 D6 L6 H6 b6 ZY kzY DY LY SY HcY bY k6 hx e1
      go_wp2_with fail
      obtain ⟨T, D, L, H, b, e1⟩ := HZ.out
      have hne : ∀ x, r ≤ x → x ≠ ch := by intro x hx; omega
      have LZ := L.far (p := ⟨ch, 1, none⟩) (hne lf ub.2.2.2.2.1) (.int .u64 1)
      refine ⟨⟨rfl, rfl, .inr (.inr ⟨T.far (p := ⟨ch, 1, none⟩) (hne tk ub.2.2.2.2.2) _, D.far (p := ⟨ch, 1, none⟩) (hne d ub.1) _, ⟨_, LZ⟩, ⟨rg, rn, rc, H.set_ 1 _⟩, b.setCell (p := ⟨ch, 1, none⟩) (.inl (by simp)) _⟩)⟩, ?_⟩
      have e2 : (z.setCell ⟨ch, 1, none⟩ (.int .u64 1)).cell? ⟨lf, 0, none⟩ = some (.int .i64 0) := LZ.cell 0
      rw [e1, e2]
      simp [intOf]
    · have hgrow : wr.heap[tk]? = some (.cells (tokC 117 0 [] 1 (.float .f64 0)) 153 (0, 0)) := C.fT
      have HX := Lib.hid C
      clear C
      go_wp2_with (refine wpList_store_row rfl 153 _ _ rfl tk zT.toArray rfl rfl 153 _ hgrow zT_size rfl zT_one ?_)
      clear hgrow
      have ZX : Blk (wr.setRow tk zT.toArray) tk 153 (tokC 0 0 [] 0 (.float .f64 0)) := row_zero HX.out.fT
      have kzX : Kp [tk] wr (wr.setRow tk zT.toArray) := kp_row wr tk _
      generalize wr.setRow tk zT.toArray = X at *
      have hx := HD.out
      obtain ⟨l1, L0⟩ := HX.out.fL
      obtain ⟨rg, rn, rc, H0⟩ := HX.out.fH
      have DX := HX.out.fD.kp kzX (by simp [hx.dd.2.2.2.2.2.2])
      have LX := L0.kp kzX (by simp [hx.ll.2.2.2.2])
      have HcX := H0.kp kzX (by simp; omega)
      have bX : Kp [ch] w X := HX.out.fb.step kzX (by simp; omega)
      refine (stepEnd d s sk lf tk 1 0 X (fun w' => Blk w' tk 153 (tokC 125 0 [] 0 (.float .f64 0)) ∧ Kp [tk, d] X w') DX ((stEnd d s sk lf tk 0 0 0 [] (.float .f64 0) _ X hx.dd.2.2.2.2.2.2 DX LX ZX).mono (by rintro e w' ⟨rfl, h1, h2, h3⟩; exact ⟨rfl, h2, h1, h3⟩))).mono ?_
      rintro e y ⟨rfl, T5, k5⟩
      have H5 := HcX.kp k5 (by simp; omega)
      have b5 : Kp [ch] w y := bX.step k5 (by intro i hi; simp at hi; simp; omega)
      have q0 : y.cell? ⟨tk, 0, none⟩ = some (.int .u8 125) := T5.cell 0
      have HY := Lib.hid (And.intro (show ∃ rg n cap, Blk y ch 109 #[.slice (some ⟨rg, 0, none⟩) n cap, .int .u64 1] from ⟨rg, rn, rc, H5⟩) b5)
      clear T5 k5 H5 b5 ZX kzX DX LX HcX bX hx L0 H0
      go_wp2_with fail
      go_ret
      exact ⟨rfl, HY.out⟩
end Go.Proofs.YtlafdmmjbkdkaaaGreatDoor

namespace Go.Proofs.YtlafdmmjbkdkaaaGreatDoor
open Go.RowKit

/-- The sections. -/
def secsR (B : List BlkL) : List UInt8 := (B.map BlkL.sec).flatten
/-- A file of version 1. -/
def carB (L : List CidL) (B : List BlkL) : List UInt8 := hdrB (wrR L) ++ secsR B
theorem secsR_take (B : List BlkL) (k : Nat) (h : k < B.length) : secsR (B.take (k + 1)) = secsR (B.take k) ++ B[k].sec := by
  unfold secsR
  rw [List.take_succ_eq_append_getElem h, List.map_append, List.flatten_append]
  simp
theorem sec_lenR {y : BlkL} (h : y.c.tidy ∧ y.c.digest.length ≤ 200 ∧ y.data.length ≤ 32768) : y.sec.length ≤ 33100 := by
  have h1 := wr_lt255 h.1 h.2.1
  have h2 := Lib.uvarint_length64 (x := y.c.wr.length + y.data.length) (by omega)
  unfold BlkL.sec
  simp only [List.length_append]
  omega
theorem hdrB_len (L : List CidL) (h : ∀ x ∈ L, x.tidy ∧ x.digest.length ≤ 200) (hn : L.length ≤ 100) : (hdrB (wrR L)).length ≤ 40010 ∧ 0 < (hdrB (wrR L)).length := by
  have h1 := hdT_len L h hn
  have h2 := Lib.uvarint_length64 (x := (hdT (wrR L)).length) (by omega)
  have h3 : 1 ≤ (hdT (wrR L)).length := by unfold hdT; simp
  unfold hdrB
  simp only [List.length_append]
  omega
theorem secsR_len (B : List BlkL) (h : ∀ y ∈ B, y.c.tidy ∧ y.c.digest.length ≤ 200 ∧ y.data.length ≤ 32768) : (secsR B).length ≤ B.length * 33100 := by
  induction B with
  | nil => simp [secsR]
  | cons y B ih =>
    have h1 := sec_lenR (h y (by simp))
    have h2 := ih (fun z hz => h z (by simp [hz]))
    have e : secsR (y :: B) = y.sec ++ secsR B := by simp [secsR]
    rw [e, List.length_append, List.length_cons, Nat.add_mul]
    omega
theorem carB_len {L : List CidL} {B : List BlkL} (h : CarOk L B) : (carB L B).length ≤ 2000000 ∧ 0 < (carB L B).length := by
  have h1 := hdrB_len L h.L (by have := h.n; omega)
  have h2 := secsR_len B h.B
  have h3 := h.n2
  have h4 : B.length * 33100 ≤ 50 * 33100 := Nat.mul_le_mul_right _ h3
  unfold carB
  simp only [List.length_append]
  omega

set_option maxRecDepth 100000 in
set_option maxHeartbeats 4000000 in
theorem specCar1_any (a : Option Addr) (n c : Nat) (L : List CidL) (a2 : Option Addr) (n2 c2 : Nat) (B : List BlkL) (w : World) (h : CarR a n L a2 n2 B w) (hok : CarOk L B) :
    Calls Tryz.prog 6 #[.agg #[.slice a n c, .slice a2 n2 c2]] w fun e w' => e = .returned (.string ⟨(carB L B).toArray⟩) ∧ Below w.heap.size w w' := by
  have b0 := Old.alloc (Below.refl w.heap.size w) (.cells #[.slice a n c, .slice a2 n2 c2] 25)
  have B0 := Blk.new w 25 #[.slice a n c, .slice a2 n2 c2]
  obtain ⟨W, hW⟩ : ∃ W, w.alloc (.cells #[.slice a n c, .slice a2 n2 c2] 25) = W := ⟨_, rfl⟩
  rw [hW] at b0 B0
  have q0 : W.cell? ⟨w.heap.size, 0, none⟩ = some (.slice a n c) := B0.cell 0
  have hn2 : n2 ≤ 50 := by rw [← h.hB]; exact hok.n2
  have hh := specHeader_any a n c L W h.hL (by rw [← h.hL]; have := hok.n; omega) (h.old b0).hC hok.L
  have hl0 := hdrB_len L hok.L (by have := hok.n; omega)
  obtain ⟨Z, hZ⟩ : ∃ Z, carB L B = Z := ⟨_, rfl⟩
  rw [hZ]
  obtain ⟨P, hP⟩ : ∃ P, hdrB (wrR L) = P := ⟨_, rfl⟩
  rw [hP] at hh hl0
  have happ := sp_app
  have H := Lib.hid (And.intro hh (And.intro h (And.intro hok (And.intro hZ (And.intro hP B0)))))
  clear hh h hok hZ hP B0
  go_enter Tryz.func6, Tryz.ntmps6
  go_wp2_with fail
  clear hW
  refine H.out.1.mono ?_
  rintro e w1 ⟨rfl, b1⟩
  have b01 := Old.trans b0 b1
  have q1 : w1.cell? ⟨w.heap.size, 1, none⟩ = some (.slice a2 n2 c2) := (H.out.2.2.2.2.2.old b1).cell 1
  clear q0 b0 b1
  go_wp2_with fail
  clear q1
  go_loopw [3, 12] (fun v i wr => ∃ (k : Nat) (F : List UInt8), k ≤ n2 ∧ i = .int .i64 k ∧ v = .string ⟨F.toArray⟩ ∧ Hid (F = P ++ secsR (B.take k)) ∧ F.length ≤ 40010 + k * 33100 ∧ Below w.heap.size w wr) (fun _ i _ => n2 - (intOf i).toNat)
  case atStart => exact ⟨0, P, Nat.zero_le _, rfl, rfl, Lib.hid (by simp [secsR]), by omega, b01⟩
  case round =>
    obtain ⟨k, F, hk, rfl, rfl, hFF, hFl, hB⟩ := hrel
    by_cases hkn : k < n2
    · obtain h0 | ⟨b, off, rfl, hcs⟩ := H.out.2.1.hK
      · omega
      have hkL : k < B.length := by rw [H.out.2.1.hB]; exact hkn
      obtain ⟨c0, c1, c2, c3, c4⟩ := (hcs.old hB) k hkL
      have htd := H.out.2.2.1.B _ (List.getElem_mem hkL)
      obtain ⟨x, hx⟩ : ∃ x, B[k] = x := ⟨_, rfl⟩
      rw [hx] at c0 c1 c2 c3 c4 htd
      have hkI : (k : Int) < (n2 : Int) := by omega
      have hse := fun W => specSection_any x W htd.1 (by omega) (by omega)
      have hsl := sec_lenR htd
      have HX := Lib.hid (And.intro hse hx)
      have hB1 := Old.alloc hB (.cells #[.int .u64 (x.c.version : Nat), .int .u64 (x.c.codec : Nat), .int .u64 (x.c.code : Nat), .string ⟨x.c.digest.toArray⟩, .string ⟨x.data.toArray⟩] 41)
      obtain ⟨K, hK⟩ : ∃ K, x.sec = K := ⟨_, rfl⟩
      rw [hK] at hsl
      have HK := Lib.hid hK
      clear hcs hse htd hx hB hK
      go_wp2_with fail
      clear c0 c1 c2 c3 c4
      refine (HX.out.1 _).mono ?_
      rw [HK.out]
      rintro e w2 ⟨rfl, b2⟩
      have hB2 := Old.trans hB1 b2
      clear hB1 b2
      go_wp2_with fail
      go_roundw
      case rel =>
        refine ⟨k + 1, F ++ K, hkn, by go_num, rfl, Lib.hid ?_, by rw [List.length_append]; omega, hB2⟩
        rw [hFF.out, ← HK.out, ← HX.out.2, secsR_take B k hkL, List.append_assoc]
      case measure => simp [intOf]; omega
    · have hkn' : k = n2 := by omega
      subst hkn'
      have hFe : F = Z := by rw [hFF.out, List.take_of_length_le (by rw [H.out.2.1.hB]; exact Nat.le_refl _), ← H.out.2.2.2.1, ← H.out.2.2.2.2.1]; rfl
      have HFe := Lib.hid hFe
      clear hFF hFe
      go_wp2_with fail
      go_ret
      exact ⟨by rw [← HFe.out]; rfl, hB⟩
end Go.Proofs.YtlafdmmjbkdkaaaGreatDoor
