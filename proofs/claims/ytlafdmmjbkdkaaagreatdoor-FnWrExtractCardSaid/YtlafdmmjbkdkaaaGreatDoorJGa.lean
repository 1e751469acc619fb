/-
  shared.SlickReaderStream over any text: Readn1, readnPartial of fewer than 32 bytes and of more. Conditions: as each contract says.
  shared.SlickReaderStream over any text: readnPartial, Readn, Readnzc of k+1 bytes, fewer than 32 of them, or from 32 to 4096. Conditions: as each contract says.
  shared.SlickReaderStream over any text: readnPartial of k+1 bytes, from 32 to 4096 of them. Conditions: as each contract says.
  shared.SlickReaderStream over any text: Readn of k+1 bytes, at most 4096 of them. Conditions: as each contract says.
-/
import Derived.Test.YtlafdmmjbkdkaaaGreatDoorJCb
import Derived.Lib.AppendZerosOnto
import Derived.OwnWalk
namespace Go.Proofs.YtlafdmmjbkdkaaaGreatDoor
open Go.RowKit

/-- The stream in block s (over q, over the bytes.Reader r of the text T at g) stands at number i; m bytes have been counted. -/
structure StrG (w : World) (s q r g c : Nat) (T : List UInt8) (aE : Addr) (i : Nat) (m : Int) : Prop where
  S : SlB w s q m
  Q : ∃ l ls b, (ls == 1) = false ∧ Blk w q 221 (rtsC r l ls b)
  R : Rdr w r g 0 T.length c i
  C : Bs w g 0 T
  E : Ee w 2 aE
  hc : T.length ≤ c
  hl : T.length ≤ 1000000
  n : q ≠ r ∧ g ≠ q ∧ g ≠ r ∧ g ≠ s ∧ s ≠ q ∧ s ≠ r
  e : 2 ≠ q ∧ 2 ≠ r ∧ 2 ≠ s
theorem StrG.kp {w w' : World} {s q r g c i : Nat} {T : List UInt8} {aE : Addr} {m : Int} {L : List Nat} (h : StrG w s q r g c T aE i m) (k : Kp L w w') (hL : s ∉ L ∧ q ∉ L ∧ r ∉ L ∧ g ∉ L ∧ 2 ∉ L) : StrG w' s q r g c T aE i m := by
  obtain ⟨l, ls, b, h1, h2⟩ := h.Q
  obtain ⟨x, R⟩ := h.R
  exact ⟨h.S.kp k hL.1, ⟨l, ls, b, h1, h2.kp k hL.2.1⟩, ⟨x, R.kp k hL.2.2.1⟩, h.C.kp k hL.2.2.2.1, h.E.kp k hL.2.2.2.2, h.hc, h.hl, h.n, h.e⟩
theorem StrG.old {w w' : World} {s q r g c i : Nat} {T : List UInt8} {aE : Addr} {m : Int} (h : StrG w s q r g c T aE i m) (b : Below w.heap.size w w') : StrG w' s q r g c T aE i m :=
  h.kp (Kp.of_below b []) (by simp)
theorem StrG.lt {w : World} {s q r g c i : Nat} {T : List UInt8} {aE : Addr} {m : Int} (h : StrG w s q r g c T aE i m) : s < w.heap.size ∧ q < w.heap.size ∧ r < w.heap.size := by
  obtain ⟨l, ls, b, h1, h2⟩ := h.Q
  exact ⟨h.S.cells.2.2.2.2, h2.lt, h.R.lt⟩

theorem readn1_strG (s q r g c i : Nat) (m z : Int) (T : List UInt8) (aE : Addr) (w : World) (h : StrG w s q r g c T aE i m) (hi : i < T.length) (hm : 0 ≤ m ∧ m ≤ 1000000) (hz : ((T[i]'hi).toNat : Int) = z) :
    Calls Tryz.prog 231 #[.pointer (some ⟨s, 0, none⟩)] w fun e w' => e = .returned (.tuple #[.int .u8 z, .nilIface]) ∧ StrG w' s q r g c T aE (i + 1) (m + 1) ∧ Kp [s, q, r] w w' := by
  obtain ⟨l, ls, b, h1, h2⟩ := h.Q
  have hr := readn1_any s q r g 0 T.length c i m l ls b T aE w h.S hm h2 h1 h.R h.C rfl hi h.hc (by have := h.hl; omega) h.n.1 h.n.2.1 h.n.2.2.1 ⟨h.n.2.2.2.2.1, h.n.2.2.2.2.2⟩ h.E ⟨h.e.1, h.e.2.1⟩
  refine hr.mono ?_
  rintro e w' ⟨rfl, S, Q, R, K⟩
  obtain ⟨n1, n2, n3, n4, n5, n6⟩ := h.n
  obtain ⟨e1, e2, e3⟩ := h.e
  exact ⟨by rw [← hz], ⟨S, ⟨_, _, _, rfl, Q⟩, R, h.C.kp K (by simp [n2, n3, n4]), h.E.kp K (by simp [e1, e2, e3]), h.hc, h.hl, h.n, h.e⟩, K⟩

set_option maxRecDepth 100000 in
set_option maxHeartbeats 2000000 in
theorem rtsReadG (q r gd od k cd : Nat) (l ls b z : Int) (aE : Addr) (w : World) (Post : World → Prop) (h : Blk w q 221 (rtsC r l ls b)) (hls : (ls == 1) = false) (hk : k ≤ 1000000)
    (HR : Calls Tryz.prog 204 #[.pointer (some ⟨r, 0, none⟩), .slice (some ⟨gd, od, none⟩) (k + 1) cd] w fun e w' => e = .returned (.tuple #[.int .i64 ((k : Int) + 1), .nilIface]) ∧ Blk w' q 221 (rtsC r l ls b) ∧ w'.cell? ⟨gd, od + k, none⟩ = some (.int .u8 z) ∧ Ee w' 2 aE ∧ Post w') :
    Calls Tryz.prog 237 #[.pointer (some ⟨q, 0, none⟩), .slice (some ⟨gd, od, none⟩) (k + 1) cd] w fun e w' => e = .returned (.tuple #[.int .i64 ((k : Int) + 1), .nilIface]) ∧
      Blk w' q 221 (rtsC r z 2 b) ∧ ∃ w1, Post w1 ∧ w' = (w1.setCell ⟨q, 1, none⟩ (.int .u8 z)).setCell ⟨q, 2, none⟩ (.int .u8 2) := by
  have hmr := rtsR_m r
  have heqn := fun W => run_eql_iface_nil_left (P := Tryz.prog) W 110 (.pointer (some aE)) Tryz.underlying49
  have q0 : w.cell? ⟨q, 0, none⟩ = some (.iface 51 (.pointer (some ⟨r, 0, none⟩))) := h.cell 0
  have q2 : w.cell? ⟨q, 2, none⟩ = some (.int .u8 ls) := h.cell 2
  have hpos : decide ((0 : Int) < (k : Int) + 1) = true := by rw [decide_eq_true_eq]; omega
  have hlt1 : (k : Int) < (k : Int) + 1 := by omega
  have hk0 : (0 : Int) ≤ (k : Int) := by omega
  have H := Lib.hid HR
  clear HR h
  go_enter Tryz.func237, Tryz.ntmps237
  go_wp2_with fail
  refine H.out.mono ?_
  rintro e w1 ⟨rfl, hB, p7, hE, hP⟩
  have p1 : w1.cell? ⟨q, 1, none⟩ = some (.int .u8 l) := hB.cell 1
  have p2 : w1.cell? ⟨q, 2, none⟩ = some (.int .u8 ls) := hB.cell 2
  have f1 := hB.frozen 1
  have f2 := hB.frozen 2
  have HB := Lib.hid (And.intro hB hP)
  unfold Ee at hE
  clear hB hP q0 q2
  go_wp2_with fail
  go_ret2
  exact ⟨rfl, (HB.out.1.set_ 1 _).set_ 2 _, w1, HB.out.2, rfl⟩
end Go.Proofs.YtlafdmmjbkdkaaaGreatDoor

namespace Go.Proofs.YtlafdmmjbkdkaaaGreatDoor
open Go.RowKit

set_option maxRecDepth 100000 in
set_option maxHeartbeats 4000000 in
theorem partS (s q r g c i k : Nat) (m : Int) (T : List UInt8) (aE : Addr) (w : World) (h : StrG w s q r g c T aE i m) (hi : i + (k + 1) ≤ T.length) (hk : k + 1 < 32) (hm : 0 ≤ m ∧ m ≤ 1000000) :
    Calls Tryz.prog 236 #[.pointer (some ⟨s, 0, none⟩), .int .i64 ((k : Int) + 1)] w fun e w' => e = .returned (.tuple #[.slice (some ⟨s, 1, none⟩) (k + 1) 32, .nilIface]) ∧ Bs w' s 1 ((T.drop i).take (k + 1)) ∧
      StrG w' s q r g c T aE (i + (k + 1)) (m + (k + 1)) ∧ Kp [s, q, r] w w' := by
  obtain ⟨d, hd⟩ : ∃ d, (T.drop i).take (k + 1) = d := ⟨_, rfl⟩
  have hdl : d.length = k + 1 := by rw [← hd, List.length_take, List.length_drop]; omega
  obtain ⟨l, ls, b, h1, h2⟩ := h.Q
  obtain ⟨sc, hsc, hSB⟩ := h.S
  obtain ⟨z, hz⟩ : ∃ z : Nat, (d[k]'(by omega)).toNat = z := ⟨_, rfl⟩
  obtain ⟨n1, n2, n3, n4, n5, n6⟩ := h.n
  obtain ⟨e1, e2, e3⟩ := h.e
  have hql := h2.lt
  have hTl := h.hl
  have hrd := rdRead_some r g 0 T.length c i s 1 (k + 1) 32 (k + 1) T [.iface 219 (.pointer (some ⟨q, 0, none⟩))] (sc ++ [.int .i64 m, .slice none 0 0, .bool false]) 226 w.drew (h.R.drewN 1) (h.C.drewN 1) rfl (by omega) h.hc (by omega) hSB.drew rfl (by simp; omega) (by omega) n6 n4 n3
  rw [hd, List.drop_append_of_le_length (by omega)] at hrd
  have hre := rtsReadG q r s 1 k 32 l ls b z aE w.drew (fun w' => Rdr w' r g 0 T.length c (i + (k + 1)) ∧ Kp [s, q, r] w w' ∧ Blk w' s 226 ((([.iface 219 (.pointer (some ⟨q, 0, none⟩))] : List Value) ++ Lib.byteCells d) ++ (sc.drop (k + 1) ++ ([.int .i64 m, .slice none 0 0, .bool false] : List Value))).toArray) h2.drew h1 (by omega) (hrd.mono (by
    rintro e w' ⟨rfl, hR, hB, hK⟩
    have k1 : Kp [s, q, r] w w' := Kb.kp (((Kb.refl (B := w.heap.size) (L := [s, q, r])).drewN 1).trans (hK w.heap.size [s, q, r] (.inl (by simp)) (.inl (by simp)))) (fun _ h => h)
    have k2 : Kb w.heap.size [s, r] w w' := ((Kb.refl (B := w.heap.size) (L := [s, r])).drewN 1).trans (hK w.heap.size [s, r] (.inl (by simp)) (.inl (by simp)))
    refine ⟨rfl, (k2.block q hql (by simp [n1, n5.symm])).trans h2, ?_, h.E.kp k1 (by simp [e1, e2, e3]), hR, k1, hB⟩
    rw [hB.cell, List.getElem?_toArray, List.getElem?_append_left (by simp [Lib.byteCells_length]; omega), List.getElem?_append_right (by simp)]
    have h6 : (Lib.byteCells d)[k]? = some (.int .u8 ((d[k]'(by omega)).toNat : Nat)) := by
      simp only [Lib.byteCells, List.getElem?_map, List.getElem?_eq_getElem (show k < d.length by omega), Option.map_some]
    rw [← hz]
    simpa using h6))
  have hra := rts_ral q s 1 (k + 1) 32 w _ (by omega) (by omega) (by omega) hre
  obtain ⟨q0, _, _, _, _⟩ := h.S.cells
  have hw : IntKind.i64.wrap (m + ((k : Int) + 1)) = m + ((k : Int) + 1) := by rw [IntKind.wrap_i64]; omega
  have hne0 : (((k : Int) + 1) == 0) = false := by simp; omega
  have hlt32 : decide ((k : Int) + 1 < 32) = true := by simp; omega
  have hle32 : (k : Int) + 1 ≤ 32 := by omega
  have hge0 : (0 : Int) ≤ (k : Int) + 1 := by omega
  have H := Lib.hid hra
  have HD := Lib.hid (And.intro hdl (And.intro hsc (And.intro h (And.intro n5 n6))))
  rw [hd]
  clear hrd hre hra h1 h2 hSB hdl hsc hd hz h n1 n2 n3 n4 n5 n6 e1 e2 e3
  go_enter Tryz.func236, Tryz.ntmps236
  go_wp2_with fail
  refine H.out.mono ?_
  rintro e w1 ⟨rfl, hB, w2, ⟨hR, hK, hT⟩, hw12⟩
  have hx := HD.out.2.2.1
  obtain ⟨n5, n6⟩ := HD.out.2.2.2
  obtain ⟨m1, m2, m3, m4, m5, m6⟩ := hx.n
  obtain ⟨e1, e2, e3⟩ := hx.e
  have k1 : Kp [s, q, r] w w1 := by
    rw [hw12]
    exact (hK.setCell (p := ⟨q, 1, none⟩) (.inl (by simp)) _).setCell (p := ⟨q, 2, none⟩) (.inl (by simp)) _
  have R1 : Rdr w1 r g 0 T.length c (i + (k + 1)) := by
    rw [hw12]
    obtain ⟨x, R⟩ := hR
    exact ⟨x, (R.far (p := ⟨q, 1, none⟩) (fun h => m1 h.symm) _).far (p := ⟨q, 2, none⟩) (fun h => m1 h.symm) _⟩
  have T1 : Blk w1 s 226 (.iface 219 (.pointer (some ⟨q, 0, none⟩)) :: ((Lib.byteCells d ++ sc.drop (k + 1)) ++ [.int .i64 m, .slice none 0 0, .bool false])).toArray := by
    rw [hw12]
    have := (hT.far (p := ⟨q, 1, none⟩) n5 (.int .u8 z)).far (p := ⟨q, 2, none⟩) n5 (.int .u8 2)
    simpa using this
  have S1 : SlB w1 s q m := ⟨_, by rw [List.length_append, Lib.byteCells_length, HD.out.1, List.length_drop, HD.out.2.1]; omega, T1⟩
  have B1 : Bs w1 s 1 d := by
    intro j hj
    rw [T1.cell, List.getElem?_toArray, Nat.add_comm 1 j, List.getElem?_cons_succ, List.append_assoc, List.getElem?_append_left (by rw [Lib.byteCells_length]; exact hj)]
    simp only [Lib.byteCells, List.getElem?_map, List.getElem?_eq_getElem hj, Option.map_some]
  obtain ⟨_, c33, c35, cf, _⟩ := S1.cells
  have f33 := cf 33
  have HB := Lib.hid (And.intro hB (And.intro R1 (And.intro k1 (And.intro S1 B1))))
  clear hB hR hK hT hw12 k1 R1 S1 cf q0 B1 T1 m1 m2 m3 m4 m5 m6 e1 e2 e3 hx n5 n6
  go_wp2_with fail
  go_ret2
  have hx := HD.out.2.2.1
  obtain ⟨m1, m2, m3, m4, m5, m6⟩ := hx.n
  obtain ⟨e1, e2, e3⟩ := hx.e
  have kk := HB.out.2.2.1.setCell (p := ⟨s, 33, none⟩) (.inl (by simp)) (.int .i64 (m + ((k : Int) + 1)))
  refine ⟨rfl, ?_, ⟨HB.out.2.2.2.1.count _, ⟨_, _, _, rfl, HB.out.1.far (p := ⟨s, 33, none⟩) (fun h => m5 h.symm) _⟩, ?_, hx.C.kp kk (by simp [m2, m3, m4]), hx.E.kp kk (by simp [e1, e2, e3]), hx.hc, hx.hl, hx.n, hx.e⟩, kk⟩
  · intro j hj
    rw [World.cell?_setCell_other (h := by intro e; have := congrArg Addr.off e; simp at this; have := HD.out.1; omega)]
    exact HB.out.2.2.2.2 j hj
  · obtain ⟨x, R⟩ := HB.out.2.1
    exact ⟨x, R.far (p := ⟨s, 33, none⟩) (fun h => m6 h.symm) _⟩
end Go.Proofs.YtlafdmmjbkdkaaaGreatDoor

namespace Go.Proofs.YtlafdmmjbkdkaaaGreatDoor
open Go.RowKit

set_option maxRecDepth 100000 in
set_option maxHeartbeats 4000000 in
theorem partB (s q r g c i k : Nat) (m : Int) (T : List UInt8) (aE : Addr) (w : World) (h : StrG w s q r g c T aE i m) (hi : i + (k + 1) ≤ T.length) (hk : 32 ≤ k + 1) (hk2 : k + 1 ≤ 4096) (hm : 0 ≤ m ∧ m ≤ 1000000) (hgl : g < w.heap.size) :
    Calls Tryz.prog 236 #[.pointer (some ⟨s, 0, none⟩), .int .i64 ((k : Int) + 1)] w fun e w' => ∃ b, e = .returned (.tuple #[.slice (some ⟨b, 0, none⟩) (k + 1) (k + 1), .nilIface]) ∧ Bs w' b 0 ((T.drop i).take (k + 1)) ∧ w.heap.size ≤ b ∧
      StrG w' s q r g c T aE (i + (k + 1)) (m + (k + 1)) ∧ Kp [s, q, r] w w' := by
  obtain ⟨d, hd⟩ : ∃ d, (T.drop i).take (k + 1) = d := ⟨_, rfl⟩
  have hdl : d.length = k + 1 := by rw [← hd, List.length_take, List.length_drop]; omega
  obtain ⟨z, hz⟩ : ∃ z : Nat, (d[k]'(by omega)).toNat = z := ⟨_, rfl⟩
  obtain ⟨i0, hi0, hz0, hz1, hz2⟩ := info_parts info5
  have hmk : ∀ W : World, (Instr.makeSlice 45 (.int .i64 0) (.int .i64 ((k : Int) + 1))).run Tryz.prog W = .ok (.slice (some ⟨W.heap.size, 0, none⟩) 0 (k + 1)) (W.alloc (.cells (List.replicate (k + 1) (.int .u8 0)).toArray 5)) := by
    intro W
    have hr := run_make (P := Tryz.prog) W 45 5 i0 (.int .u8 0) Tryz.underlying45 hi0 hz0 .i64 .i64 0 ((k : Int) + 1) (by omega) (by omega) (by rw [hz2]; omega) (by omega)
    have ht0 : madeCells #[Value.int .u8 0] (k + 1) = (List.replicate (k + 1) (Value.int .u8 0)).toArray := by
      rw [← toList_madeCells_one (.int .u8 0) (k + 1)]
    rw [← ht0]
    have e1 : ((k : Int) + 1).toNat = k + 1 := by omega
    rw [e1] at hr
    simpa [hz1, Value.cells] using hr
  obtain ⟨zs, hzs⟩ : ∃ zs, List.replicate (k + 1) (Value.int .u8 0) = zs := ⟨_, rfl⟩
  rw [hzs] at hmk
  have hzl : zs.length = k + 1 := by rw [← hzs, List.length_replicate]
  obtain ⟨bk, hbk⟩ : ∃ bk, w.heap.size = bk := ⟨_, rfl⟩
  obtain ⟨V, hV⟩ : ∃ V, w.alloc (.cells zs.toArray 5) = V := ⟨_, rfl⟩
  have bV : Below w.heap.size w V := by rw [← hV]; exact Old.alloc (Below.refl _ _) _
  have BV : Blk V bk 5 zs.toArray := by rw [← hV, ← hbk]; exact Blk.new _ _ _
  have hv := h.old bV
  obtain ⟨l, ls, b, h1, h2⟩ := hv.Q
  obtain ⟨n1, n2, n3, n4, n5, n6⟩ := h.n
  obtain ⟨e1, e2, e3⟩ := h.e
  have hsl := h.lt
  have hTl := h.hl
  have nb : bk ≠ s ∧ bk ≠ q ∧ bk ≠ r ∧ bk ≠ g := by
    clear n1 n2 n3 n4 n5 n6 e1 e2 e3
    omega
  have hEl := h.E.lt
  have hrd := rdRead_some r g 0 T.length c i bk 0 (k + 1) (k + 1) (k + 1) T [] zs 5 V.drew.drew ((hv.R.drewN 1).drewN 1) ((hv.C.drewN 1).drewN 1) rfl (by omega) h.hc (by omega) BV.drew.drew rfl (by omega) (by omega) nb.2.2.1 (fun e => nb.2.2.2 e.symm) n3
  rw [hd, List.nil_append, show zs.drop (k + 1) = [] from List.drop_of_length_le (by omega), List.append_nil] at hrd
  have hEbk : 2 ≠ bk := by
    clear n1 n2 n3 n4 n5 n6 e1 e2 e3 nb
    omega
  have hre := rtsReadG q r bk 0 k (k + 1) l ls b z aE V.drew.drew (fun w' => Rdr w' r g 0 T.length c (i + (k + 1)) ∧ Kp [bk, r] V w' ∧ Bs w' bk 0 d) h2.drew.drew h1 (by omega) (hrd.mono (by
    rintro e w' ⟨rfl, hR, hB, hK⟩
    have k1 : Kp [bk, r] V w' := Kb.kp ((((Kb.refl (B := V.heap.size) (L := [bk, r])).drewN 1).drewN 1).trans (hK V.heap.size [bk, r] (.inl (by simp)) (.inl (by simp)))) (fun _ h => h)
    have hbs := bs_blk hB
    refine ⟨rfl, h2.kp k1 (by simp [n1, nb.2.1.symm]), ?_, hv.E.kp k1 (by simp [e2, hEbk]), hR, k1, hbs⟩
    have := hbs k (by omega)
    rw [this, ← hz]))
  have hra := rts_ral q bk 0 (k + 1) (k + 1) V.drew _ (by omega) (by omega) (by omega) hre
  have hw : IntKind.i64.wrap (m + ((k : Int) + 1)) = m + ((k : Int) + 1) := by rw [IntKind.wrap_i64]; omega
  have hne0 : (((k : Int) + 1) == 0) = false := by simp; omega
  have hlt32 : decide ((k : Int) + 1 < 32) = false := by rw [decide_eq_false_iff_not]; omega
  have hlt40 : decide (4096 < (k : Int) + 1) = false := by rw [decide_eq_false_iff_not]; omega
  have hlt0 : decide (0 < (k : Int) + 1) = true := by rw [decide_eq_true_eq]; omega
  have hge0 : (0 : Int) ≤ (k : Int) + 1 := by omega
  have hbw : w.heap.size ≤ bk := by omega
  have H := Lib.hid hra
  have HD := Lib.hid (And.intro hdl (And.intro h (And.intro hv (And.intro nb (And.intro bV hEbk)))))
  rw [hd]
  clear hrd hre hra h1 h2 hdl hd hz h hv n1 n2 n3 n4 n5 n6 e1 e2 e3 nb bV BV hi0 hz0 hz1 hz2 hzs hzl hEbk
  go_enter Tryz.func236, Tryz.ntmps236
  go_wp2_with fail
  clear hV hbk
  go_loopw [4] (fun v wr => (v = .slice (some ⟨bk, 0, none⟩) 0 (k + 1) ∧ wr = V) ∨ (v = .slice (some ⟨bk, 0, none⟩) (k + 1) (k + 1) ∧ Bs wr bk 0 d ∧ StrG wr s q r g c T aE (i + (k + 1)) (m + (k + 1)) ∧ Kp [s, q, r] w wr))
    (fun v _ => match v with | .slice _ n _ => (k + 1) - n | _ => 0)
  case atStart => exact .inl ⟨rfl, rfl⟩
  case round =>
    obtain ⟨rfl, rfl⟩ | ⟨rfl, hP⟩ := hrel
    · obtain ⟨q0, _, _, _, _⟩ := HD.out.2.2.1.S.cells
      go_wp2_with fail
      go_region_with (go_at_call 74; refine H.out.mono ?_; rintro e w1 ⟨rfl, hB, w2, ⟨hR, hK, hT⟩, hw12⟩; replace hw12 := Lib.hid hw12)
      all_goals
        have hx := HD.out.2.2.1
        obtain ⟨nb1, nb2, nb3, nb4⟩ := HD.out.2.2.2.1
        obtain ⟨m1, m2, m3, m4, m5, m6⟩ := hx.n
        obtain ⟨e1, e2, e3⟩ := hx.e
        have k1 : Kp [bk, q, r] wr w1 := by
          rw [hw12.out]
          exact ((hK.weaken (l' := [bk, q, r]) (by simp)).setCell (p := ⟨q, 1, none⟩) (.inl (by simp)) _).setCell (p := ⟨q, 2, none⟩) (.inl (by simp)) _
        have R1 : Rdr w1 r g 0 T.length c (i + (k + 1)) := by
          rw [hw12.out]
          obtain ⟨x, R⟩ := hR
          exact ⟨x, (R.far (p := ⟨q, 1, none⟩) (fun h => m1 h.symm) _).far (p := ⟨q, 2, none⟩) (fun h => m1 h.symm) _⟩
        have T1 : Bs w1 bk 0 d := by
          rw [hw12.out]
          exact (hT.far (p := ⟨q, 1, none⟩) nb2 _).far (p := ⟨q, 2, none⟩) nb2 _
        have S1 : SlB w1 s q m := hx.S.kp k1 (by simp [nb1.symm, m5, m6])
        obtain ⟨_, c33, c35, cf, _⟩ := S1.cells
        have f33 := cf 33
        have HB := Lib.hid (And.intro hB (And.intro R1 (And.intro k1 (And.intro S1 T1))))
        clear hB hR hK hT hw12 k1 R1 S1 cf q0 T1 m1 m2 m3 m4 m5 m6 e1 e2 e3 hx nb1 nb2 nb3 nb4
        go_wp2_with fail
        have hx := HD.out.2.2.1
        obtain ⟨nb1, nb2, nb3, nb4⟩ := HD.out.2.2.2.1
        obtain ⟨m1, m2, m3, m4, m5, m6⟩ := hx.n
        obtain ⟨e1, e2, e3⟩ := hx.e
        have kw : Kp [s, q, r] w w1 := (Kp.of_below HD.out.2.2.2.2.1 [s, q, r]).step HB.out.2.2.1 (by
          intro a ha
          simp only [List.mem_cons, List.not_mem_nil, or_false] at ha
          rcases ha with rfl | rfl | rfl
          · exact .inr hbw
          · exact .inl (by simp)
          · exact .inl (by simp))
        have kk := kw.setCell (p := ⟨s, 33, none⟩) (.inl (by simp)) (.int .i64 (m + ((k : Int) + 1)))
        have h0 := HD.out.2.1
        refine ⟨.inr ⟨rfl, HB.out.2.2.2.2.far (p := ⟨s, 33, none⟩) nb1 _, ⟨HB.out.2.2.2.1.count _, ⟨_, _, _, rfl, HB.out.1.far (p := ⟨s, 33, none⟩) (fun h => m5 h.symm) _⟩, ?_, h0.C.kp kk (by simp [m2, m3, m4]), h0.E.kp kk (by simp [e1, e2, e3]), h0.hc, h0.hl, h0.n, h0.e⟩, kk⟩, by simp⟩
        obtain ⟨x, R⟩ := HB.out.2.1
        exact ⟨x, R.far (p := ⟨s, 33, none⟩) (fun h => m6 h.symm) _⟩
    · have HP := Lib.hid hP
      clear hP
      go_wp2_with fail
      go_ret2
      exact ⟨bk, rfl, HP.out.1, hbw, HP.out.2.1, HP.out.2.2⟩
end Go.Proofs.YtlafdmmjbkdkaaaGreatDoor

namespace Go.Proofs.YtlafdmmjbkdkaaaGreatDoor
open Go.RowKit

theorem bs_new_more (w : World) (t : TypeId) (l : List UInt8) (zs : Array Value) : Bs (w.alloc (.cells ((Lib.byteCells l).toArray ++ zs) t)) w.heap.size 0 l := by
  intro j hj
  rw [Nat.zero_add, (Blk.new w t ((Lib.byteCells l).toArray ++ zs)).cell, Array.getElem?_append_left (by simp [Lib.byteCells_length]; exact hj)]
  simp only [Lib.byteCells, List.getElem?_toArray, List.getElem?_map, List.getElem?_eq_getElem hj, Option.map_some]

theorem wpList_append_run {P : Program} {ops : Array Oper} {rest : List Oper} {o : Oper} {a : Act} {w : World} {Q : Exit → Act → World → Prop} (hgd : o.guard = none) (s x : Operand) (t tn : TypeId)
    (ho : o.op = .call { callee := .builtin .append, args := #[s, x], argTypes := #[t, tn] }) (vs vx : Value) (hs : a.eval s = vs) (hx : a.eval x = vx) (v' : Value) (w' : World) (hr : (Builtin.append_ #[t, tn] o.type #[vs, vx]).run P w = .ok v' w')
    (h : wpList P ops Q rest (a.put o.dst v') w') : wpList P ops Q (o :: rest) a w :=
  wpList_plain hgd fun _ hK => Go.Lib.wp_append_run w s x t tn ho vs vx hs hx v' w' hr (hK _ _ h)

set_option maxRecDepth 100000 in
set_option maxHeartbeats 4000000 in
theorem readnG (s q r g c i k : Nat) (m : Int) (T : List UInt8) (aE : Addr) (w : World) (h : StrG w s q r g c T aE i m) (hi : i + (k + 1) ≤ T.length) (hk2 : k + 1 ≤ 4096) (hm : 0 ≤ m ∧ m ≤ 1000000) (hgl : g < w.heap.size) :
    Calls Tryz.prog 230 #[.pointer (some ⟨s, 0, none⟩), .int .i64 ((k : Int) + 1)] w fun e w' => ∃ b cc, e = .returned (.tuple #[.slice (some ⟨b, 0, none⟩) (k + 1) cc, .nilIface]) ∧ Bs w' b 0 ((T.drop i).take (k + 1)) ∧ k + 1 ≤ cc ∧ w.heap.size ≤ b ∧
      StrG w' s q r g c T aE (i + (k + 1)) (m + (k + 1)) ∧ Kp [s, q, r] w w' := by
  obtain ⟨d, hd⟩ : ∃ d, (T.drop i).take (k + 1) = d := ⟨_, rfl⟩
  have hdl : d.length = k + 1 := by rw [← hd, List.length_take, List.length_drop]; omega
  by_cases hk : k + 1 < 32
  · have hps := partS s q r g c i k m T aE w h hi hk hm
    rw [hd] at hps ⊢
    have hlt32 : decide ((k : Int) + 1 < 32) = true := by rw [decide_eq_true_eq]; omega
    obtain ⟨i0, hi0, hz0, hz1, hz2⟩ := info_parts info5
    have H := Lib.hid hps
    clear hps h hi hm hgl hd
    go_enter Tryz.func230, Tryz.ntmps230
    go_wp2_with fail
    refine H.out.mono ?_
    rintro e w1 ⟨rfl, hB, hS, hK⟩
    have hap := run_append_nil (P := Tryz.prog) (w := w1) 45 45 5 i0 (.int .u8 0) Tryz.underlying45 hi0 hz0 ⟨s, 1, none⟩ (k + 1) 32 (Lib.byteCells d) (by rw [Lib.byteCells_length, hdl, hz1, Nat.mul_one]) (bs_src hB) (by omega) (by omega) (by rw [hz2]; omega)
    have hs1 := hK.size
    have hcc : k + 1 ≤ grownCap w1 (k + 1) 0 5 := grownCap_ge w1 (k + 1) 0 5
    have bN := bs_new_more w1.drew 5 d (Builtin.zeroCells (Value.int .u8 0).cells (grownCap w1 (k + 1) 0 5 - (k + 1)))
    have aN := Old.alloc ((Below.refl w1.heap.size w1).drew) (.cells ((Lib.byteCells d).toArray ++ Builtin.zeroCells (Value.int .u8 0).cells (grownCap w1 (k + 1) 0 5 - (k + 1))) 5)
    have HB := Lib.hid (And.intro bN (And.intro (hS.old aN) (hK.old aN)))
    have HAP := Lib.hid hap
    clear hB hS hK bN aN hi0 hz0 hz1 hz2 hap
    go_wp2_with (at_builtin; refine wpList_append_run rfl _ _ 45 45 rfl _ _ rfl rfl _ _ HAP.out ?_)
    go_ret2
    exact ⟨w1.heap.size, _, rfl, HB.out.1, hcc, hs1, HB.out.2.1, HB.out.2.2⟩
  · have hps := partB s q r g c i k m T aE w h hi (by omega) hk2 hm hgl
    rw [hd] at hps ⊢
    have hlt32 : decide ((k : Int) + 1 < 32) = false := by rw [decide_eq_false_iff_not]; omega
    have H := Lib.hid hps
    clear hps h hi hm hgl hd
    go_enter Tryz.func230, Tryz.ntmps230
    go_wp2_with fail
    refine H.out.mono ?_
    rintro e w1 ⟨b, rfl, hB, hb, hS, hK⟩
    have HB := Lib.hid (And.intro hB (And.intro hS hK))
    clear hB hS hK
    go_wp2_with fail
    go_ret2
    exact ⟨b, _, rfl, HB.out.1, Nat.le_refl _, hb, HB.out.2.1, HB.out.2.2⟩
end Go.Proofs.YtlafdmmjbkdkaaaGreatDoor
