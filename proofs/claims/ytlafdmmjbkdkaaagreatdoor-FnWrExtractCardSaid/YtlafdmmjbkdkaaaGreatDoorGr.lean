/-
  carv1.zzDecodeRoots over the roots of a header of version 1. Conditions: as the contract says.
-/
import Derived.Test.YtlafdmmjbkdkaaaGreatDoorJGl
import Derived.Test.YtlafdmmjbkdkaaaGreatDoorJCf0
import Derived.Test.YtlafdmmjbkdkaaaGreatDoorJCfr
import Derived.Test.YtlafdmmjbkdkaaaGreatDoorJC2Small
import Derived.Deep.RegionLaw
import Derived.Deep.AppendLies
namespace Go.Proofs.YtlafdmmjbkdkaaaGreatDoor
open Go.RowKit

theorem infoCidR : (Tryz.prog.info? 193).map (fun i => (i.zero, i.size, i.bytes)) = some (some (.agg #[.string ⟨#[]⟩]), 1, 16) := by kernel_rfl

/-- The cells of texts. -/
def strsR (M : List (List UInt8)) : List Value := M.map fun s => .string ⟨s.toArray⟩
/-- The bytes of identifiers. -/
def wrR (L : List CidL) : List (List UInt8) := L.map CidL.wr

theorem own_kp {w w' : World} {base g n cap size : Nat} {e : TypeId} {xs : List Value} {L : List Nat} (h : w.ownsRow base e size (.slice (some ⟨g, 0, none⟩) n cap) n xs) (k : Kp L w w') (hg : g ∉ L) : w'.ownsRow base e size (.slice (some ⟨g, 0, none⟩) n cap) n xs := by
  obtain ⟨h1, h2 | ⟨g', cap', cur, hv, hb, hc, hr⟩⟩ := h
  · cases h2.1
  · cases hv
    have hlt : g < w.heap.size := by
      rcases Nat.lt_or_ge g w.heap.size with h | h
      · exact h
      · rw [Array.getElem?_eq_none h] at hc; cases hc
    exact ⟨h1, .inr ⟨g, cap, cur, rfl, hb, (k.block g hlt hg).trans hc, hr⟩⟩

theorem grown_setCellR (w : World) (p : Addr) (u : Value) : w.grownBy (w.setCell p u) (some p.block) :=
  ⟨rfl, rfl, rfl, by simp [World.setCell], fun k _ hn => Below.heap_setCell _ _ _ _ (by simpa using hn)⟩

/-- A slice in the first cell of a block that has grown by an element and is written back. -/
theorem hi_stepR {W3 w4 : World} {base g g2 cap cap2 k m : Nat} {x y : Value} {M : List Value} {o : Obj} {T E : TypeId} {hb : Nat} (BH : Blk W3 hb T #[.slice (some ⟨g, 0, none⟩) k cap, x])
    (hgh : g ≠ hb) (hgr : ((W3.alloc o).drewN m).grownBy w4 (some g)) (hat : some g = some g2 ∨ g2 = W3.heap.size + 1)
    (hown4 : w4.ownsRow base E 1 (.slice (some ⟨g2, 0, none⟩) (k + 1) cap2) (k + 1) (M ++ [y])) :
    Kp [hb, g] W3 (w4.setCell ⟨hb, 0, none⟩ (.slice (some ⟨g2, 0, none⟩) (k + 1) cap2)) ∧ Blk (w4.setCell ⟨hb, 0, none⟩ (.slice (some ⟨g2, 0, none⟩) (k + 1) cap2)) hb T #[.slice (some ⟨g2, 0, none⟩) (k + 1) cap2, x] ∧
      g2 ≠ hb ∧ (g2 = g ∨ W3.heap.size ≤ g2) ∧ (w4.setCell ⟨hb, 0, none⟩ (.slice (some ⟨g2, 0, none⟩) (k + 1) cap2)).ownsRow base E 1 (.slice (some ⟨g2, 0, none⟩) (k + 1) cap2) (k + 1) (M ++ [y]) := by
  have hbl := BH.lt
  have k1 : Kp [hb, g] W3 ((W3.alloc o).drewN m) := ((Kp.refl _ W3).alloc o).drewN m
  have k4 : Kp [hb, g] W3 w4 := k1.grown hgr (fun k hk => by
    have e : g = k := by simpa using hk
    subst e; exact .inl (by simp))
  have B4 : Blk w4 hb T #[.slice (some ⟨g, 0, none⟩) k cap, x] := Blk.grown ((BH.alloc o).drewN m) hgr (by simp; omega)
  have hne : g2 ≠ hb := by
    rcases hat with h | h
    · have : g = g2 := by simpa using h
      omega
    · omega
  refine ⟨k4.setCell (p := ⟨hb, 0, none⟩) (.inl (by simp)) _, B4.set_ 0 _, hne, ?_, ?_⟩
  · rcases hat with h | h
    · left; have : g = g2 := by simpa using h
      omega
    · right; omega
  · exact hown4.kept (grown_setCellR _ _ _) (.inr (by simp [Value.ownBlock]; exact hne))

theorem wrR_len (L : List CidL) : (wrR L).length = L.length := by simp [wrR]
theorem wrR_get (L : List CidL) (k : Nat) (h : k < L.length) : (wrR L)[k]'(by rw [wrR_len]; exact h) = L[k].wr := by simp [wrR]
theorem wr_lt255 {c : CidL} (hc : c.tidy) (hd : c.digest.length ≤ 200) : c.wr.length < 255 ∧ 0 < c.wr.length := by
  have h1 := Lib.uvarint_length64 (x := c.code) (by rcases hc with ⟨_, _, h, _⟩ | ⟨_, _, h⟩ <;> omega)
  have h2 := Lib.uvarint_length64 (x := c.digest.length) (by omega)
  have h3 := Lib.uvarint_length64 (x := c.codec) (by rcases hc with ⟨_, h, _⟩ | ⟨_, h, _⟩ <;> omega)
  have h4 := Lib.uvarint_length64 (x := 1) (by omega)
  have h5 := Lib.uvarint_pos c.code
  unfold CidL.wr
  split
  · simp only [mhWr, List.length_append]; omega
  · simp only [mhWr, List.length_append]; omega

/-- The errors that cid.Cast mentions. -/
structure E5 (w : World) : Prop where
  e0 : Er w 10
  e1 : Er w 11
  e2 : Er w 19
  e3 : Er w 22
  eS : Sr w 12
theorem E5.old {w w' : World} (h : E5 w) (b : Below w.heap.size w w') : E5 w' := ⟨h.e0.old b, h.e1.old b, h.e2.old b, h.e3.old b, h.eS.old b⟩

/-- Ahead of the k-th root. -/
structure RtSt (T : List UInt8) (L : List CidL) (i0 d s q r g c sk lf tk ch : Nat) (aE : Addr) (k0 l0 v : Value) (kr lr : List Value) (w : World) (k : Nat) (wr : World) : Prop where
  fT : ∃ cs, Blk wr tk 153 cs ∧ cs.size = zT.toArray.size
  fD : Blk wr d 191 (decC s sk lf 2 4 2)
  fL : Blk wr lf 3 (l0 :: .int .i64 ((L.length - k : Nat) : Int) :: lr).toArray
  fK : Blk wr sk 189 (k0 :: .int .u8 5 :: kr).toArray
  fS : StrG wr s q r g c T aE (i0 + (lksB ((wrR L).take k)).length) ((i0 + (lksB ((wrR L).take k)).length : Nat) : Int)
  fH : ∃ rg cap, Blk wr ch 109 #[.slice (some ⟨rg, 0, none⟩) k cap, v] ∧ wr.ownsRow w.heap.size 193 1 (.slice (some ⟨rg, 0, none⟩) k cap) k (strsR ((wrR L).take k)) ∧ rg ≠ tk ∧ w.heap.size ≤ rg
  fb : Kp [d, sk, lf, s, q, r, ch] w wr

/-- What zzDecodeRoots comes to. -/
def RtPost (T : List UInt8) (j d s q r g c sk lf ch : Nat) (aE : Addr) (k0 l0 v : Value) (kr lr : List Value) (w : World) (e : Ending) (w' : World) : Prop :=
  e = .returned .nilIface ∧ Blk w' d 191 (decC s sk lf 1 5 1) ∧ Blk w' lf 3 (l0 :: .int .i64 0 :: lr).toArray ∧ Blk w' sk 189 (k0 :: .int .u8 5 :: kr).toArray ∧
    StrG w' s q r g c T aE j (j : Int) ∧ (∃ rg n cap, Blk w' ch 109 #[.slice (some ⟨rg, 0, none⟩) n cap, v]) ∧ Kp [d, sk, lf, s, q, r, ch] w w'

set_option maxRecDepth 100000 in
set_option maxHeartbeats 8000000 in
theorem decRoots (T R : List UInt8) (L : List CidL) (i d s q r g c sk lf ch tk0 : Nat) (aE : Addr) (k0 k1 l0 l1 v : Value) (kr lr : List Value) (w w0 : World) (hn : L.length ≤ 100) (hL : ∀ x ∈ L, x.tidy ∧ x.digest.length ≤ 200) (hTl : T.length ≤ 45000)
    (hT : T.drop i = hdL 128 L.length ++ (lksB (wrR L) ++ R)) (hd : Dis d s q r g sk lf tk0) (hD : Blk w d 191 (decC s sk lf 1 6 1)) (hk : Blk w sk 189 (k0 :: k1 :: kr).toArray) (hl : Blk w lf 3 (l0 :: l1 :: lr).toArray)
    (hS : StrG w s q r g c T aE i (i : Int)) (hch : Blk w ch 109 #[.slice none 0 0, v]) (hcd : ch ≠ d ∧ ch ≠ s ∧ ch ≠ q ∧ ch ≠ r ∧ ch ≠ g ∧ ch ≠ sk ∧ ch ≠ lf ∧ 2 ≠ ch) (hgl : g < w.heap.size) (h0 : Below w0.heap.size w0 w) (hE : E5 w0)
    (hub : ∀ x ∈ [d, sk, lf, s, q, r, ch], w0.heap.size ≤ x) :
    Calls Tryz.prog 83 #[.pointer (some ⟨d, 0, none⟩), .pointer (some ⟨ch, 0, none⟩)] w
      (RtPost T (i + 1 + hdJ L.length + (lksB (wrR L)).length) d s q r g c sk lf ch aE k0 l0 v kr lr w) := by
  have hil := drop_len (A := hdL 128 L.length ++ (lksB (wrR L) ++ R)) hT (by intro h; have := congrArg List.length h; simp [hdL_len] at this)
  obtain ⟨⟨hi, hib⟩, hLen, hdr⟩ := hd_at (k := 128) (.inr rfl) (by omega) hT
  obtain ⟨tk, htk⟩ : ∃ tk, w.heap.size = tk := ⟨_, rfl⟩
  have hbb : 128 ≤ hdB 128 L.length ∧ hdB 128 L.length < 159 := by unfold hdB; split <;> omega
  obtain ⟨b, hb⟩ : ∃ b, hdB 128 L.length = b := ⟨_, rfl⟩
  rw [hb] at hib hLen hbb
  have hdl := hD.lt
  have hsl := hS.lt
  have hkl := hk.lt
  have hll := hl.lt
  have hcl := hch.lt
  have hel := hS.E.lt
  have a1 : d ≠ tk := by omega
  have a2 : sk ≠ tk := by omega
  have a3 : lf ≠ tk := by omega
  have a4 : tk ≠ s := by omega
  have a5 : tk ≠ q := by omega
  have a6 : tk ≠ r := by omega
  have a7 : tk ≠ g := by omega
  have a8 : 2 ≠ tk := by omega
  have ht : Dis d s q r g sk lf tk := by
    obtain ⟨⟨x1, x2, x3, x4, x5, x6, x7⟩, ⟨y1, y2, y3, y4, y5, y6⟩, ⟨z1, z2, z3, z4, z5⟩, ⟨t1, t2, t3, t4⟩, ⟨e1, e2, e3, e4⟩⟩ := hd
    exact ⟨⟨x1, x2, x3, x4, x5, x6, a1⟩, ⟨y1, y2, y3, y4, y5, a2⟩, ⟨z1, z2, z3, z4, a3⟩, ⟨a4, a5, a6, a7⟩, ⟨e1, e2, e3, a8⟩⟩
  clear a1 a2 a3 a4 a5 a6 a7 a8
  have hmk : ∀ W : World, (Instr.makeSlice 107 (.int .i64 0) (.int .i64 0)).run Tryz.prog W = .ok (.slice (some ⟨W.heap.size, 0, none⟩) 0 0) (W.alloc (.cells #[] 193)) := fun _ => by kernel_rfl
  have HC := Lib.hid (And.intro hcd (And.intro hgl (And.intro hTl (And.intro h0 (And.intro hE (And.intro hub (And.intro hn hL)))))))
  have HT := Lib.hid (And.intro hib (And.intro hLen (And.intro hdr (And.intro hbb hil))))
  have HD := Lib.hid ht
  have HI := Lib.hid (And.intro hD (And.intro hk (And.intro hl (And.intro hS hch))))
  clear hd hT ht hcd h0 hE hub hL hib hLen hdr hbb hD hk hl hS hch
  have hch2 : ch ≠ tk := by omega
  go_enter Tryz.func83, Tryz.ntmps83
  go_wp2_with fail
  have kA := Kp.alloc (Kp.refl [] w) (.cells #[.int .u8 0, .int .i64 0, .string ⟨#[]⟩, .slice none 0 0, .bool false, .int .i64 0, .int .u64 0, .float .f64 0, .bool false, .int .i64 0] 153)
  have T3 : Blk (w.alloc (.cells #[.int .u8 0, .int .i64 0, .string ⟨#[]⟩, .slice none 0 0, .bool false, .int .i64 0, .int .u64 0, .float .f64 0, .bool false, .int .i64 0] 153)) tk 153 (tokC 0 0 [] 0 (.float .f64 0)) := by rw [← htk]; exact Blk.new _ _ _
  try simp only [htk]
  generalize w.alloc (.cells #[.int .u8 0, .int .i64 0, .string ⟨#[]⟩, .slice none 0 0, .bool false, .int .i64 0, .int .u64 0, .float .f64 0, .bool false, .int .i64 0] 153) = W at *
  have DW := HI.out.1.kp kA (by simp)
  have KW := HI.out.2.1.kp kA (by simp)
  have LW := HI.out.2.2.1.kp kA (by simp)
  have SW := HI.out.2.2.2.1.kp kA (by simp)
  have HW := HI.out.2.2.2.2.kp kA (by simp)
  have hsv := stMapArr T b (L.length : Int) ((i + 1 + hdJ L.length : Nat) : Int) i (i + 1 + hdJ L.length) d s q r g c sk lf tk (i : Int) aE 0 0 0 [] (.float .f64 0) k0 k1 l0 l1 kr lr W (by have := HT.out.2.2.2.1.1; omega) (by have := HT.out.2.2.2.1.2; omega) HD.out DW KW LW T3 SW hi (by rw [HT.out.1]) (by have := HC.out.2.2.1; omega)
    (fun V hV hDV => by
      have := decLenH d s q r g c (i + 1) sk lf 1 1 L.length (hdJ L.length) (b : Int) ((i : Int) + 1) 5 T aE V HT.out.2.1 (by have := HC.out.2.2.1; omega) ⟨HD.out.dd.1, HD.out.dd.2.1, HD.out.dd.2.2.1⟩ hV hDV
      have e1 : (i : Int) + 1 + (hdJ L.length : Int) = ((i + 1 + hdJ L.length : Nat) : Int) := by omega
      rw [e1] at this
      exact this)
  refine (stepMap d s sk lf tk 1 1 W _ DW hsv).mono ?_
  rintro e w4 ⟨rfl, T4, D4, L4, K4, S4, k4⟩
  have hcd := HC.out.1
  have H4 := HW.kp k4 (by simp [hcd, hch2])
  have k04 : Kp [d, sk, lf, s, q, r, ch] w w4 := (kA.weaken (l' := [d, sk, lf, s, q, r, ch]) (by simp)).step k4 (by simp; omega)
  have q0 : w4.cell? ⟨tk, 0, none⟩ = some (.int .u8 91) := T4.cell 0
  have qh : w4.cell? ⟨ch, 0, none⟩ = some (.slice none 0 0) := H4.cell 0
  have fh := H4.frozen 0
  have hz4 := k04.size
  have hch4 := H4.lt
  have HA := Lib.hid (And.intro T4 (And.intro D4 (And.intro L4 (And.intro K4 (And.intro S4 (And.intro H4 k04))))))
  clear kA T3 DW KW LW SW HW hsv T4 D4 L4 K4 S4 H4 k04 k4 hcd
  go_wp2_with fail
  clear q0 qh fh hmk
  have hgW := HA.out.2.2.2.2.2.2.size
  have kM := Kp.alloc ((Kp.refl [ch] w4).setCell (p := ⟨ch, 0, none⟩) (.inl (by simp)) (.slice (some ⟨w4.heap.size, 0, none⟩) 0 0)) (.cells #[] 193)
  have OM : ((w4.setCell ⟨ch, 0, none⟩ (.slice (some ⟨w4.heap.size, 0, none⟩) 0 0)).alloc (.cells #[] 193)).ownsRow w.heap.size 193 1 (.slice (some ⟨w4.heap.size, 0, none⟩) (0 : Nat) 0) 0 (strsR ((wrR L).take 0)) := by
    have hz : (w4.setCell ⟨ch, 0, none⟩ (.slice (some ⟨w4.heap.size, 0, none⟩) 0 0)).heap.size = w4.heap.size := by simp [World.setCell]
    have := World.ownsRow_made (e := 193) (base := w.heap.size) (size := 1) (w4.setCell ⟨ch, 0, none⟩ (.slice (some ⟨w4.heap.size, 0, none⟩) 0 0)) #[] 0 (by rw [hz]; exact hgW) (by unfold maxLen; omega) rfl
    rw [hz] at this
    exact this
  have st0 : RtSt T L (i + 1 + hdJ L.length) d s q r g c sk lf tk ch aE k0 l0 v kr lr w 0 ((w4.setCell ⟨ch, 0, none⟩ (.slice (some ⟨w4.heap.size, 0, none⟩) 0 0)).alloc (.cells #[] 193)) := by
    obtain ⟨T4, D4, L4, K4, S4, H4, k04⟩ := HA.out
    have hcd := HC.out.1
    have e0 : i + 1 + hdJ L.length + (lksB ((wrR L).take 0)).length = i + 1 + hdJ L.length := by simp [lksB]
    refine ⟨⟨_, T4.kp kM (by simpa using fun h => hch2 h.symm), rfl⟩, D4.kp kM (by simp [hcd.1.symm]), ?_, K4.kp kM (by simp [hcd.2.2.2.2.2.1.symm]), ?_, ⟨w4.heap.size, 0, ?_, OM, by have := T4.lt; omega, hgW⟩, k04.step kM (by simp)⟩
    · exact L4.kp kM (by simp [hcd.2.2.2.2.2.2.1.symm])
    · rw [e0]
      exact S4.kp kM (by simp [hcd.2.1.symm, hcd.2.2.1.symm, hcd.2.2.2.1.symm, hcd.2.2.2.2.1.symm, hcd.2.2.2.2.2.2.2])
    · exact (H4.set_ 0 _).alloc _
  have HST := Lib.hid st0
  clear st0 kM OM hgW HA HI hz4 hch4
  generalize (w4.setCell ⟨ch, 0, none⟩ (.slice (some ⟨w4.heap.size, 0, none⟩) 0 0)).alloc (.cells #[] 193) = wM at *
  obtain ⟨i0, hi0⟩ : ∃ i0, i + 1 + hdJ L.length = i0 := ⟨_, rfl⟩
  have hdr := HT.out.2.2.1
  have hii : i + 1 + hdJ L.length + (lksB (wrR L)).length ≤ T.length := by
    have := congrArg List.length hdr
    simp only [List.length_drop, List.length_append] at this
    have hj := hdJ_le L.length
    have h2 := HT.out.2.2.2.2
    simp only [List.length_append, hdL_len] at h2
    omega
  rw [hi0] at HST hdr hii
  simp only [hi0]
  have HDR := Lib.hid (And.intro hdr hii)
  clear hdr hii HT hil hi hi0
  obtain ⟨ty0, hty0, hty1, hty2, hty3⟩ := info_parts infoCidR
  go_loopw [9] (fun _ wr => ∃ k, k ≤ L.length ∧ RtSt T L i0 d s q r g c sk lf tk ch aE k0 l0 v kr lr w k wr) (fun _ wr => (intOf ((wr.cell? ⟨lf, 1, none⟩).getD undef)).toNat)
  case atStart => exact ⟨0, Nat.zero_le _, HST.out⟩
  case round =>
    clear HST
    obtain ⟨k, hk, st⟩ := hrel
    obtain ⟨cs, hcs, hcz⟩ := st.fT
    have hgrow : wr.heap[tk]? = some (.cells cs 153 (0, 0)) := hcs
    have HS := Lib.hid st
    clear st hcs
    go_wp2_with (refine wpList_store_row rfl 153 _ _ rfl tk zT.toArray rfl rfl 153 _ hgrow zT_size hcz zT_one ?_)
    have ZX : Blk (wr.setRow tk zT.toArray) tk 153 (tokC 0 0 [] 0 (.float .f64 0)) := row_zero hgrow
    have kzX : Kp [tk] wr (wr.setRow tk zT.toArray) := kp_row wr tk _
    clear hgrow hcz
    generalize wr.setRow tk zT.toArray = X at *
    have hx := HD.out
    have hcd := HC.out.1
    have DX := HS.out.fD.kp kzX (by simp [hx.dd.2.2.2.2.2.2])
    have KX := HS.out.fK.kp kzX (by simp [hx.kk.2.2.2.2.2])
    have LX := HS.out.fL.kp kzX (by simp [hx.ll.2.2.2.2])
    have SX := HS.out.fS.kp kzX (by simp [hx.tt.1.symm, hx.tt.2.1.symm, hx.tt.2.2.1.symm, hx.tt.2.2.2.symm, hx.ee.2.2.2])
    have bX : Kp [d, sk, lf, s, q, r, ch] w X := HS.out.fb.step kzX (by simp; omega)
    obtain ⟨rg, cap, HX, OX, hrt, hrw⟩ := HS.out.fH
    have HXX := HX.kp kzX (by simp [hch2])
    have OXX := own_kp OX kzX (by simp [hrt])
    have hsX := bX.size
    by_cases hkn : k < L.length
    · have hkM : k < (wrR L).length := by rw [wrR_len]; exact hkn
      obtain ⟨x, hxL⟩ : ∃ x, L[k] = x := ⟨_, rfl⟩
      have hxt := HC.out.2.2.2.2.2.2.2 x (by rw [← hxL]; exact List.getElem_mem hkn)
      have hwl := wr_lt255 hxt.1 hxt.2
      have hdl := drop_link k HDR.out.1 hkM
      have htk1 := lksB_take (wrR L) k hkM
      rw [wrR_get L k hkn, hxL] at hdl htk1
      obtain ⟨p, hp⟩ : ∃ p, i0 + (lksB ((wrR L).take k)).length = p := ⟨_, rfl⟩
      rw [hp] at hdl SX
      have hat := lk_at hwl.1 hdl
      have hpn : i0 + (lksB ((wrR L).take (k + 1))).length = p + (lkB x.wr).length := by rw [htk1, List.length_append]; omega
      have hTl := HC.out.2.2.1
      have hgl := HC.out.2.1
      have hnk : ((L.length - k : Nat) : Int) = ((L.length - (k + 1) : Nat) : Int) + 1 := by omega
      rw [hnk] at LX
      have hjt := hat.hjt
      have hji := hat.hj
      obtain ⟨b, hb⟩ : ∃ b, x.wr = b := ⟨_, rfl⟩
      rw [hb] at hat hpn hwl hjt hji
      have hbb : 64 ≤ hdB 64 (b.length + 1) ∧ hdB 64 (b.length + 1) < 95 := by unfold hdB; split <;> omega
      have hsa := stArr d s q r g c p (p + 1 + 1 + 1 + hdJ (b.length + 1)) b.length sk lf tk (hdB 64 (b.length + 1) : Nat) (p : Int) ((p + 1 + 1 + 1 + hdJ (b.length + 1) : Nat) : Int) ((L.length - (k + 1) : Nat) : Int) 0 0 0 [] T (.slice none 0 0) (.float .f64 0) l0 0 lr aE X (by omega) (by omega) (by omega) (by omega) hx DX LX ZX SX (by omega)
        hat.hi hat.h216 hat.h42 hat.hb (by omega) (by omega) (by omega) (by omega) (fun V hV hDV => by
          have := decLenH d s q r g c (p + 1 + 1 + 1) sk lf 2 2 (b.length + 1) (hdJ (b.length + 1)) (hdB 64 (b.length + 1) : Nat) ((p : Int) + 1 + 1 + 1) 4 T aE V hat.hl (by omega) ⟨hx.dd.1, hx.dd.2.1, hx.dd.2.2.1⟩ hV hDV
          have e1 : (p : Int) + 1 + 1 + 1 + (hdJ (b.length + 1) : Int) = ((p + 1 + 1 + 1 + hdJ (b.length + 1) : Nat) : Int) := by omega
          have e2 : ((b.length + 1 : Nat) : Int) = (b.length : Int) + 1 := by omega
          rw [e1, e2] at this
          exact this)
      refine (stepArr d s sk lf tk 2 2 X _ DX hsa).mono ?_
      rintro e y ⟨rfl, bk, cc, T5, B5, hcc, hbk, D5, L5, S5, k5⟩
      rw [hat.ht] at B5
      have b5 : Kp [d, sk, lf, s, q, r, ch] w y := bX.step k5 (by simp; omega)
      have H5 := HXX.kp k5 (by simp [hcd, hch2])
      have O5 := own_kp OXX k5 (by
        have z1 := HXX.lt
        have z2 := DX.lt
        simp [hrt]
        omega)
      have K5 := KX.kp k5 (by simp [hx.kk.1, hx.kk.2.1, hx.kk.2.2.1, hx.kk.2.2.2.2.1, hx.kk.2.2.2.2.2])
      have q0 : y.cell? ⟨tk, 0, none⟩ = some (.int .u8 120) := T5.cell 0
      have q3 : y.cell? ⟨tk, 3, none⟩ = some (.slice (some ⟨bk, 0, none⟩) (b.length + 1) cc) := T5.cell 3
      have qb : y.cell? ⟨bk, 0, none⟩ = some (.int .u8 0) := B5 0 (by simp)
      have hl0 : (((b.length : Int) + 1) == 0) = false := by rw [beq_eq_false_iff_ne]; omega
      have hbl : 0 < b.length := hwl.2
      have hcc1 : ¬ cc = 1 := by omega
      have hblt := B5.lt (by simp)
      have HY := Lib.hid (And.intro T5 (And.intro B5 (And.intro D5 (And.intro L5 (And.intro S5 (And.intro K5 (And.intro b5 (And.intro H5 O5))))))))
      have HPn := Lib.hid (And.intro hpn (And.intro htk1 (And.intro hxt (And.intro hb (And.intro hat hwl)))))
      clear T5 B5 D5 L5 S5 K5 b5 H5 O5 hpn htk1 hxt hb hat hwl hdl hsa ZX kzX DX KX LX SX bX HX OX HXX OXX hx hcd hnk k5 hkM
      go_wp2_with fail
      have hxt := HPn.out.2.2.1
      have hb := HPn.out.2.2.2.1
      have hE := HC.out.2.2.2.2.1
      have b0y : Below w0.heap.size w0 y := below_kp HC.out.2.2.2.1 HY.out.2.2.2.2.2.2.1 HC.out.2.2.2.1.size HC.out.2.2.2.2.2.1
      have Ey := hE.old b0y
      have hcb : Bs y bk 1 b := by
        have := bs_app_right (a := [0]) (b := b) (k := 1) HY.out.2.1 rfl
        rwa [Nat.zero_add] at this
      have hrd := cdRd_wr x [] hxt.1 (by omega)
      rw [List.append_nil, hb] at hrd
      refine (cidCast_any bk 1 b.length (cc - 1) b x b.length y rfl (by omega) (by omega) hcb hblt hrd Ey.e0 Ey.e1 Ey.e2 Ey.e3 Ey.eS).mono ?_
      rintro e z ⟨bz, hz1, _⟩
      obtain rfl := hz1 rfl
      rw [hb]
      have hrt' := hrt
      obtain ⟨T5, B5, D5, L5, S5, K5, b5, H5, O5⟩ := HY.out
      have TZ := (T5.old bz).alloc (.cells #[.string ⟨b.toArray⟩] 193)
      have DZ := (D5.old bz).alloc (.cells #[.string ⟨b.toArray⟩] 193)
      have LZ := (L5.old bz).alloc (.cells #[.string ⟨b.toArray⟩] 193)
      have KZ := (K5.old bz).alloc (.cells #[.string ⟨b.toArray⟩] 193)
      have HZ := (H5.old bz).alloc (.cells #[.string ⟨b.toArray⟩] 193)
      have bZ := (b5.old bz).alloc (.cells #[.string ⟨b.toArray⟩] 193)
      have SZ := (S5.old bz).old (Old.alloc (Below.refl z.heap.size z) (.cells #[.string ⟨b.toArray⟩] 193))
      have OZ := (O5.kept (row := none) ⟨bz.os, bz.tape, bz.output, bz.size, fun k hk _ => bz.block k hk⟩ (.inr (by simp [Value.ownBlock]))).alloc (.cells #[.string ⟨b.toArray⟩] 193)
      have XZ := Blk.new z 193 #[.string ⟨b.toArray⟩]
      have zz1 := bz.size
      have zz2 := H5.lt
      have zz3 := (O5.lt rg rfl).2
      have zz4 := T5.lt
      clear T5 B5 D5 L5 S5 K5 b5 H5 O5 bz hz1 Ey hcb hrd b0y hE hxt hb q0 q3 qb
      go_wp2_with fail
      generalize z.alloc (.cells #[.string ⟨b.toArray⟩] 193) = W3 at *
      have qH : W3.cell? ⟨ch, 0, none⟩ = some (.slice (some ⟨rg, 0, none⟩) k cap) := HZ.cell 0
      have qX : W3.cell? ⟨z.heap.size, 0, none⟩ = some (.string ⟨b.toArray⟩) := XZ.cell 0
      have fH := HZ.frozen 0
      have zH := HZ.lt
      have zX := XZ.lt
      have hrc : rg ≠ ch := by omega
      have hstr : strsR ((wrR L).take k) ++ [.string ⟨b.toArray⟩] = strsR ((wrR L).take (k + 1)) := by
        have hkM : k < (wrR L).length := by rw [wrR_len]; exact hkn
        rw [List.take_succ_eq_append_getElem hkM, wrR_get L k hkn, hxL, HPn.out.2.2.2.1]
        simp [strsR]
      have e1 : wr.cell? ⟨lf, 1, none⟩ = some (.int .i64 ((L.length - k : Nat) : Int)) := HS.out.fL.cell 1
      have hcd := HC.out.1
      have hx := HD.out
      have HCD := Lib.hid (And.intro hcd (And.intro hx (And.intro e1 hstr)))
      clear hcd hx e1 hstr
      have HU := Lib.hid (show ∀ (o : Obj) (W4 : World) (m : Nat), ((W3.alloc o).drewN m).grownBy W4 (some rg) → W4.cell? ⟨ch, 0, none⟩ = some (.slice (some ⟨rg, 0, none⟩) k cap) ∧ W4.frozen? ⟨ch, 0, none⟩ = false from fun o W4 m hgr => by
        have hlt : (⟨ch, 0, none⟩ : Addr).block < ((W3.alloc o).drewN m).heap.size := by show ch < (W3.alloc o).heap.size; simp; omega
        have hne : some (⟨ch, 0, none⟩ : Addr).block ≠ some rg := by simp; omega
        exact ⟨(hgr.cell_far _ hlt hne).trans ((HZ.alloc o).cell 0), (hgr.frozen_far _ hlt hne).trans ((HZ.alloc o).frozen 0)⟩)
      have HV := Lib.hid (And.intro TZ (And.intro DZ (And.intro LZ (And.intro KZ (And.intro SZ bZ)))))
      clear TZ DZ LZ KZ SZ bZ
      go_region_law ((refine step_append_lies _ (by rfl) _ _ _ (by rfl) w.heap.size 193 ty0 _ 1 16 Tryz.underlying107 hty0 hty1 hty2 hty3 rfl (by omega) (.slice (some ⟨rg, 0, none⟩) k cap) k (strsR ((wrR L).take k)) (by rfl) ((OZ.alloc _).drew)
                         ⟨W3.heap.size, 0, none⟩ 1 1 [.string ⟨b.toArray⟩] (by rfl) (by rfl) (World.news_of_block (cs := #[.string ⟨b.toArray⟩]) (t := 193) (fr := (0, 0)) (heap_alloc_new W3 _)) (by simp [Value.oneCell'])
                         (by omega) (by unfold maxLen; omega) (by omega) (by simp; omega) (W3.heap.size + 1) (by simp) ?_; intro g2 cap2 w4 hown4 hgrow hat hlt; obtain ⟨q4, f4⟩ := HU.out _ w4 1 hgrow))
      all_goals
        have hst := hi_stepR (m := 1) HZ hrc hgrow hat hown4
        rw [HCD.out.2.2.2] at hst
        have hnx : RtSt T L i0 d s q r g c sk lf tk ch aE k0 l0 v kr lr w (k + 1) (w4.setCell ⟨ch, 0, none⟩ (.slice (some ⟨g2, 0, none⟩) (k + 1) cap2)) := by
          obtain ⟨hcd, hx, _, _⟩ := HCD.out
          obtain ⟨TZ, DZ, LZ, KZ, SZ, bZ⟩ := HV.out
          obtain ⟨hK, hB, hg, hgg, hO⟩ := hst
          have nd : d ∉ [ch, rg] := by simp [hcd.1.symm]; omega
          have nl : lf ∉ [ch, rg] := by simp [hcd.2.2.2.2.2.2.1.symm]; omega
          have nk : sk ∉ [ch, rg] := by simp [hcd.2.2.2.2.2.1.symm]; omega
          have nt : tk ∉ [ch, rg] := by simp [hch2.symm, hrt.symm]
          refine ⟨⟨_, TZ.kp hK nt, rfl⟩, DZ.kp hK nd, LZ.kp hK nl, KZ.kp hK nk, ?_, ⟨g2, cap2, hB, hO, by omega, by omega⟩, bZ.step hK (by simp; omega)⟩
          have e0 : i0 + (lksB ((wrR L).take (k + 1))).length = p + 1 + 1 + 1 + hdJ (b.length + 1) + (b.length + 1) := by rw [HPn.out.1]; omega
          have em : ((p + 1 + 1 + 1 + hdJ (b.length + 1) + (b.length + 1) : Nat) : Int) = ((p + 1 + 1 + 1 + hdJ (b.length + 1) : Nat) : Int) + ((b.length : Int) + 1) := by omega
          rw [e0, em]
          refine SZ.kp hK ?_
          simp [hcd.2.1.symm, hcd.2.2.1.symm, hcd.2.2.2.1.symm, hcd.2.2.2.2.1.symm, hcd.2.2.2.2.2.2.2]
          omega
        have e2 : (w4.setCell ⟨ch, 0, none⟩ (.slice (some ⟨g2, 0, none⟩) (k + 1) cap2)).cell? ⟨lf, 1, none⟩ = some (.int .i64 ((L.length - (k + 1) : Nat) : Int)) := hnx.fL.cell 1
        have HNX := Lib.hid (And.intro hnx e2)
        clear hst hnx e2 hown4
        go_wp2_with fail
        go_roundw
        case rel => exact ⟨k + 1, by omega, HNX.out.1⟩
        case measure =>
          have e1 := HCD.out.2.2.1
          have e2 := HNX.out.2
          rw [e1, e2]
          simp [intOf]
          omega
    · have hkn' : k = L.length := by omega
      subst hkn'
      rw [Nat.sub_self] at LX
      have hse := stArrEnd d s sk lf tk 0 0 0 0 [] (.slice none 0 0) (.float .f64 0) l0 false lr X hx.dd.2.2.2.2.2.2 DX LX ZX
      refine (stepPop d s sk lf tk 2 1 5 k0 kr X (fun w' => Blk w' tk 153 (tokB 93 0 [] (.slice none 0 0) 0 (.float .f64 0) false 0) ∧ Kp [tk, d] X w') DX (hse.mono (by
        rintro e w' ⟨rfl, h1, h2, h3⟩
        exact ⟨rfl, h2, KX.kp h3 (by simp [hx.kk.2.2.2.2.2, hx.dd.2.2.2.2.1.symm]), h1, h3⟩)) hx.dd.2.2.2.2.1).mono ?_
      rintro e y ⟨rfl, D6, w1, ⟨T6, k6⟩, k7⟩
      have kk := (k6.weaken (l' := [tk, d]) (by simp)).step k7 (by simp)
      have T7 := T6.kp k7 (by simp [hx.dd.2.2.2.2.2.2.symm])
      have L7 := LX.kp kk (by simp [hx.ll.2.2.2.2, hx.dd.2.2.2.2.2.1.symm])
      have K7 := KX.kp kk (by simp [hx.kk.2.2.2.2.2, hx.dd.2.2.2.2.1.symm])
      have S7 := SX.kp kk (by simp [hx.tt.1.symm, hx.tt.2.1.symm, hx.tt.2.2.1.symm, hx.tt.2.2.2.symm, hx.ee.2.2.2, hx.dd.1.symm, hx.dd.2.1.symm, hx.dd.2.2.1.symm, hx.dd.2.2.2.1.symm, hx.ee.1])
      have H7 := HXX.kp kk (by simp [hch2, hcd.1])
      have b7 : Kp [d, sk, lf, s, q, r, ch] w y := bX.step kk (by simp; omega)
      have q0 : y.cell? ⟨tk, 0, none⟩ = some (.int .u8 93) := T7.cell 0
      rw [List.take_of_length_le (by rw [wrR_len]; exact Nat.le_refl _)] at S7
      have HH := Lib.hid (And.intro D6 (And.intro L7 (And.intro K7 (And.intro S7 (And.intro (show ∃ rg n cap, Blk y ch 109 #[.slice (some ⟨rg, 0, none⟩) n cap, v] from ⟨rg, _, cap, H7⟩) b7)))))
      clear D6 T6 k6 k7 kk T7 L7 K7 S7 H7 b7 hse ZX kzX DX KX LX SX bX HX OX HXX OXX hx hcd
      go_wp2_with fail
      go_ret
      exact ⟨rfl, HH.out⟩
end Go.Proofs.YtlafdmmjbkdkaaaGreatDoor
