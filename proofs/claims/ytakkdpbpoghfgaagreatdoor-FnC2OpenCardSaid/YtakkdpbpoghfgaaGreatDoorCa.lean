/-
  shared.readerToScanner over a bytes.Reader (Read of one byte into itself, of seven bytes into another row; ReadByte), shared.SlickReaderStream over it (Readn1, Readnzc of seven). Conditions: as each contract says.
-/
import Derived.Test.YtakkdpbpoghfgaaGreatDoorRf
import Derived.Test.YtakkdpbpoghfgaaGreatDoorRk
namespace Go.Proofs.YtakkdpbpoghfgaaGreatDoor
open Go.RowKit

/-- The cells of a readerToScanner over the bytes.Reader in block r. -/
def rtsC (r : Nat) (l ls b : Int) : Array Value := #[.iface 59 (.pointer (some ⟨r, 0, none⟩)), .int .u8 l, .int .u8 ls, .int .u8 b]

theorem rtsR_m (r : Nat) (W : World) : (method 334 59 (.pointer (some ⟨r, 0, none⟩)) "Read").run Tryz.prog W = .ok (116, .pointer (some ⟨r, 0, none⟩)) W := by kernel_rfl

set_option maxRecDepth 100000 in
set_option maxHeartbeats 2000000 in
theorem rtsRead1 (q r : Nat) (l ls b z : Int) (aE : Addr) (w : World) (Post : World → Prop) (h : Blk w q 151 (rtsC r l ls b)) (hls : (ls == 1) = false)
    (HR : Calls Tryz.prog 116 #[.pointer (some ⟨r, 0, none⟩), .slice (some ⟨q, 3, none⟩) 1 1] w fun e w' => e = .returned (.tuple #[.int .i64 1, .nilIface]) ∧ Blk w' q 151 (rtsC r l ls z) ∧ Ee w' 4 aE ∧ Post w') :
    Calls Tryz.prog 148 #[.pointer (some ⟨q, 0, none⟩), .slice (some ⟨q, 3, none⟩) 1 1] w fun e w' => e = .returned (.tuple #[.int .i64 1, .nilIface]) ∧
      Blk w' q 151 (rtsC r z 2 z) ∧ ∃ w1, Post w1 ∧ w' = (w1.setCell ⟨q, 1, none⟩ (.int .u8 z)).setCell ⟨q, 2, none⟩ (.int .u8 2) := by
  have hmr := rtsR_m r
  have heqn := fun W => run_eql_iface_nil_left (P := Tryz.prog) W 92 (.pointer (some aE)) Tryz.underlying56
  have q0 : w.cell? ⟨q, 0, none⟩ = some (.iface 59 (.pointer (some ⟨r, 0, none⟩))) := h.cell 0
  have q2 : w.cell? ⟨q, 2, none⟩ = some (.int .u8 ls) := h.cell 2
  have H := Lib.hid HR
  clear HR h
  go_enter Tryz.func148, Tryz.ntmps148
  go_wp2_with fail
  refine H.out.mono ?_
  rintro e w1 ⟨rfl, hB, hE, hP⟩
  have p1 : w1.cell? ⟨q, 1, none⟩ = some (.int .u8 l) := hB.cell 1
  have p2 : w1.cell? ⟨q, 2, none⟩ = some (.int .u8 ls) := hB.cell 2
  have p3 : w1.cell? ⟨q, 3, none⟩ = some (.int .u8 z) := hB.cell 3
  have f1 := hB.frozen 1
  have f2 := hB.frozen 2
  have HB := Lib.hid (And.intro hB hP)
  unfold Ee at hE
  clear hB hP q0 q2
  go_wp2_with fail
  go_ret2
  exact ⟨rfl, (HB.out.1.set_ 1 _).set_ 2 _, w1, HB.out.2, rfl⟩

set_option maxRecDepth 100000 in
set_option maxHeartbeats 2000000 in
theorem rtsRead7 (q r s : Nat) (l ls b z : Int) (aE : Addr) (w : World) (Post : World → Prop) (h : Blk w q 151 (rtsC r l ls b)) (hls : (ls == 1) = false)
    (HR : Calls Tryz.prog 116 #[.pointer (some ⟨r, 0, none⟩), .slice (some ⟨s, 1, none⟩) 7 32] w fun e w' => e = .returned (.tuple #[.int .i64 7, .nilIface]) ∧ Blk w' q 151 (rtsC r l ls b) ∧ w'.cell? ⟨s, 7, none⟩ = some (.int .u8 z) ∧ Ee w' 4 aE ∧ Post w') :
    Calls Tryz.prog 148 #[.pointer (some ⟨q, 0, none⟩), .slice (some ⟨s, 1, none⟩) 7 32] w fun e w' => e = .returned (.tuple #[.int .i64 7, .nilIface]) ∧
      Blk w' q 151 (rtsC r z 2 b) ∧ ∃ w1, Post w1 ∧ w' = (w1.setCell ⟨q, 1, none⟩ (.int .u8 z)).setCell ⟨q, 2, none⟩ (.int .u8 2) := by
  have hmr := rtsR_m r
  have heqn := fun W => run_eql_iface_nil_left (P := Tryz.prog) W 92 (.pointer (some aE)) Tryz.underlying56
  have q0 : w.cell? ⟨q, 0, none⟩ = some (.iface 59 (.pointer (some ⟨r, 0, none⟩))) := h.cell 0
  have q2 : w.cell? ⟨q, 2, none⟩ = some (.int .u8 ls) := h.cell 2
  have H := Lib.hid HR
  clear HR h
  go_enter Tryz.func148, Tryz.ntmps148
  go_wp2_with fail
  refine H.out.mono ?_
  rintro e w1 ⟨rfl, hB, p7, hE, hP⟩
  have p1 : w1.cell? ⟨q, 1, none⟩ = some (.int .u8 l) := hB.cell 1
  have p2 : w1.cell? ⟨q, 2, none⟩ = some (.int .u8 ls) := hB.cell 2
  have f1 := hB.frozen 1
  have f2 := hB.frozen 2
  have HB := Lib.hid (And.intro hB hP)
  unfold Ee at hE
  clear hB hP q0 q2
  go_wp2_with fail
  go_ret2
  exact ⟨rfl, (HB.out.1.set_ 1 _).set_ 2 _, w1, HB.out.2, rfl⟩

set_option maxRecDepth 100000 in
set_option maxHeartbeats 2000000 in
theorem rtsByte (q r g o n c i : Nat) (l ls b : Int) (t : List UInt8) (aE : Addr) (w : World) (h : Blk w q 151 (rtsC r l ls b)) (hls : (ls == 1) = false) (hr : Rdr w r g o n c i) (hc : Bs w g o t) (hn : n = t.length) (hi : i < t.length) (hnc : n ≤ c) (hl : t.length ≤ 2147483647)
    (hqr : q ≠ r) (hgq : g ≠ q) (hgr : g ≠ r) (hE : Ee w 4 aE) (gE : 4 ≠ q ∧ 4 ≠ r) :
    Calls Tryz.prog 149 #[.pointer (some ⟨q, 0, none⟩)] w fun e w' => e = .returned (.tuple #[.int .u8 ((t[i].toNat : Nat) : Int), .nilIface]) ∧
      Blk w' q 151 (rtsC r ((t[i].toNat : Nat) : Int) 2 ((t[i].toNat : Nat) : Int)) ∧ Rdr w' r g o n c (i + 1) ∧ Kp [q, r] w w' := by
  obtain ⟨z, hz⟩ : ∃ z : Nat, t[i].toNat = z := ⟨_, rfl⟩
  have ht : Lib.byteCells ((t.drop i).take 1) = [.int .u8 (z : Int)] := by
    rw [List.drop_eq_getElem_cons hi, ← hz]
    rfl
  have hql := h.lt
  have hrl := hr.lt
  have hrd := rdRead_some r g o n c i q 3 1 1 1 t [.iface 59 (.pointer (some ⟨r, 0, none⟩)), .int .u8 l, .int .u8 ls] [.int .u8 b] 151 w hr hc hn (by omega) hnc hl h rfl (by simp) (by omega) hqr hgq hgr
  rw [ht] at hrd
  have hre := rtsRead1 q r l ls b z aE w (fun w' => Rdr w' r g o n c (i + 1) ∧ Kp [q, r] w w') h hls (hrd.mono (by
    rintro e w' ⟨rfl, hR, hB, hK⟩
    have k1 : Kp [q, r] w w' := (hK w.heap.size [q, r] (.inl (by simp)) (.inl (by simp))).kp (fun _ h => h)
    exact ⟨rfl, hB, hE.kp k1 (by simp; omega), hR, k1⟩))
  have H := Lib.hid hre
  have HE := Lib.hid hE
  have heqn := fun W => run_eql_iface_nil_left (P := Tryz.prog) W 92 (.pointer (some aE)) Tryz.underlying56
  rw [hz]
  clear hrd hre hr hc hn hi hnc hl hz ht h hE
  go_enter Tryz.func149, Tryz.ntmps149
  go_wp2_with fail
  refine H.out.mono ?_
  rintro e w1 ⟨rfl, hB, w2, ⟨hR, hK⟩, hw⟩
  have p3 : w1.cell? ⟨q, 3, none⟩ = some (.int .u8 z) := hB.cell 3
  have k1 : Kp [q, r] w w1 := by
    rw [hw]
    exact (hK.setCell (p := ⟨q, 1, none⟩) (.inl (by simp)) _).setCell (p := ⟨q, 2, none⟩) (.inl (by simp)) _
  have hE1 := HE.out.kp k1 (by simp; omega)
  have hR1 : Rdr w1 r g o n c (i + 1) := by
    rw [hw]
    obtain ⟨x, R⟩ := hR
    exact ⟨x, (R.far (p := ⟨q, 1, none⟩) (fun h => hqr h.symm) _).far (p := ⟨q, 2, none⟩) (fun h => hqr h.symm) _⟩
  have HB := Lib.hid (And.intro hB (And.intro hR1 k1))
  unfold Ee at hE1
  clear hB hR hK hw hR1 k1
  go_wp2_with fail
  go_ret2
  exact ⟨rfl, HB.out.1, HB.out.2.1, HB.out.2.2⟩

/-- In block s lies a SlickReaderStream over the readerToScanner in block q; m bytes have been read. -/
def SlB (w : World) (s q : Nat) (m : Int) : Prop := ∃ sc : List Value, sc.length = 32 ∧ Blk w s 156 (.iface 149 (.pointer (some ⟨q, 0, none⟩)) :: (sc ++ [.int .i64 m, .slice none 0 0, .bool false])).toArray
theorem sl_set (x : Value) (sc : List Value) (h : sc.length = 32) (a b c v : Value) : (x :: (sc ++ [a, b, c])).set 33 v = x :: (sc ++ [v, b, c]) := by
  show x :: ((sc ++ [a, b, c]).set 32 v) = _
  rw [List.set_append_right _ _ (by omega), h]
  rfl
theorem sl_get (x : Value) (sc : List Value) (h : sc.length = 32) (a b c : Value) : (x :: (sc ++ [a, b, c]))[33]? = some a ∧ (x :: (sc ++ [a, b, c]))[35]? = some c := by
  constructor
  · show (sc ++ [a, b, c])[32]? = _
    rw [List.getElem?_append_right (by omega), h]
    rfl
  · show (sc ++ [a, b, c])[34]? = _
    rw [List.getElem?_append_right (by omega), h]
    rfl
theorem SlB.cells {w : World} {s q : Nat} {m : Int} (h : SlB w s q m) : w.cell? ⟨s, 0, none⟩ = some (.iface 149 (.pointer (some ⟨q, 0, none⟩))) ∧ w.cell? ⟨s, 33, none⟩ = some (.int .i64 m) ∧ w.cell? ⟨s, 35, none⟩ = some (.bool false) ∧ (∀ i, w.frozen? ⟨s, i, none⟩ = false) ∧ s < w.heap.size := by
  obtain ⟨sc, hs, h⟩ := h
  have := sl_get (.iface 149 (.pointer (some ⟨q, 0, none⟩))) sc hs (.int .i64 m) (.slice none 0 0) (.bool false)
  exact ⟨h.cell 0, (h.cell 33).trans (by rw [List.getElem?_toArray]; exact this.1), (h.cell 35).trans (by rw [List.getElem?_toArray]; exact this.2), h.frozen, h.lt⟩
theorem SlB.count {w : World} {s q : Nat} {m : Int} (h : SlB w s q m) (k : Int) : SlB (w.setCell ⟨s, 33, none⟩ (.int .i64 k)) s q k := by
  obtain ⟨sc, hs, h⟩ := h
  refine ⟨sc, hs, ?_⟩
  have := h.set_ 33 (.int .i64 k)
  rw [List.setIfInBounds_toArray, sl_set _ _ hs] at this
  exact this
theorem SlB.kp {w w' : World} {s q : Nat} {m : Int} {L : List Nat} (h : SlB w s q m) (k : Kp L w w') (hs : s ∉ L) : SlB w' s q m := by
  obtain ⟨sc, hl, h⟩ := h
  exact ⟨sc, hl, h.kp k hs⟩

set_option maxRecDepth 100000 in
set_option maxHeartbeats 2000000 in
theorem readn1_any (s q r g o n c i : Nat) (m l ls b : Int) (t : List UInt8) (aE : Addr) (w : World) (hS : SlB w s q m) (hm : 0 ≤ m ∧ m ≤ 1000) (h : Blk w q 151 (rtsC r l ls b)) (hls : (ls == 1) = false) (hr : Rdr w r g o n c i) (hc : Bs w g o t) (hn : n = t.length) (hi : i < t.length) (hnc : n ≤ c) (hl : t.length ≤ 2147483647)
    (hqr : q ≠ r) (hgq : g ≠ q) (hgr : g ≠ r) (hsq : s ≠ q ∧ s ≠ r) (hE : Ee w 4 aE) (gE : 4 ≠ q ∧ 4 ≠ r) :
    Calls Tryz.prog 142 #[.pointer (some ⟨s, 0, none⟩)] w fun e w' => e = .returned (.tuple #[.int .u8 ((t[i].toNat : Nat) : Int), .nilIface]) ∧
      SlB w' s q (m + 1) ∧ Blk w' q 151 (rtsC r ((t[i].toNat : Nat) : Int) 2 ((t[i].toNat : Nat) : Int)) ∧ Rdr w' r g o n c (i + 1) ∧ Kp [s, q, r] w w' := by
  have hmr : ∀ W, (method 334 149 (.pointer (some ⟨q, 0, none⟩)) "ReadByte").run Tryz.prog W = .ok (149, .pointer (some ⟨q, 0, none⟩)) W := fun _ => by kernel_rfl
  have hby := rtsByte q r g o n c i l ls b t aE w h hls hr hc hn hi hnc hl hqr hgq hgr hE gE
  obtain ⟨z, hz⟩ : ∃ z : Nat, t[i].toNat = z := ⟨_, rfl⟩
  rw [hz] at hby ⊢
  obtain ⟨q0, _, _, _, hsl⟩ := hS.cells
  have hw : IntKind.i64.wrap (m + 1) = m + 1 := by rw [IntKind.wrap_i64]; omega
  have H := Lib.hid (And.intro hby hS)
  clear hby h hls hr hc hn hi hnc hl hE gE hz hS
  go_enter Tryz.func142, Tryz.ntmps142
  go_wp2_with fail
  refine H.out.1.mono ?_
  rintro e w1 ⟨rfl, hB, hR, hK⟩
  have S1 := H.out.2.kp hK (by simp; omega)
  obtain ⟨c0, c33, c35, cf, _⟩ := S1.cells
  have f33 := cf 33
  have HB := Lib.hid (And.intro hB (And.intro hR (And.intro hK S1)))
  clear hB hR hK S1 cf q0
  go_wp2_with fail
  go_ret2
  refine ⟨rfl, HB.out.2.2.2.count _, HB.out.1.far (p := ⟨s, 33, none⟩) (fun h => hsq.1 h.symm) _, ?_, ?_⟩
  · obtain ⟨x, R⟩ := HB.out.2.1
    exact ⟨x, R.far (p := ⟨s, 33, none⟩) (fun h => hsq.2 h.symm) _⟩
  · exact (HB.out.2.2.1.weaken (l' := [s, q, r]) (by intro j hj; left; simp at hj ⊢; omega)).setCell (p := ⟨s, 33, none⟩) (.inl (by simp)) _

set_option maxRecDepth 100000 in
set_option maxHeartbeats 2000000 in
theorem readn7_any (s q r g o n c i : Nat) (m l ls b : Int) (t : List UInt8) (aE : Addr) (w : World) (hS : SlB w s q m) (hm : 0 ≤ m ∧ m ≤ 1000) (h : Blk w q 151 (rtsC r l ls b)) (hls : (ls == 1) = false) (hr : Rdr w r g o n c i) (hc : Bs w g o t) (hn : n = t.length) (hi : i + 7 ≤ t.length) (hnc : n ≤ c) (hl : t.length ≤ 2147483647)
    (hqr : q ≠ r) (hgq : g ≠ q) (hgr : g ≠ r) (hgs : g ≠ s) (hsq : s ≠ q ∧ s ≠ r) (hE : Ee w 4 aE) (gE : 4 ≠ q ∧ 4 ≠ r ∧ 4 ≠ s) :
    Calls Tryz.prog 143 #[.pointer (some ⟨s, 0, none⟩), .int .i64 7] w fun e w' => e = .returned (.tuple #[.slice (some ⟨s, 1, none⟩) 7 32, .nilIface]) ∧ Bs w' s 1 ((t.drop i).take 7) ∧
      SlB w' s q (m + 7) ∧ (∃ l' b', Blk w' q 151 (rtsC r l' 2 b')) ∧ Rdr w' r g o n c (i + 7) ∧ Kp [s, q, r] w w' := by
  obtain ⟨d, hd⟩ : ∃ d, (t.drop i).take 7 = d := ⟨_, rfl⟩
  have hdl : d.length = 7 := by rw [← hd, List.length_take, List.length_drop]; omega
  obtain ⟨sc, hsc, hSB⟩ := id hS
  obtain ⟨z, hz⟩ : ∃ z : Nat, (d[6]'(by omega)).toNat = z := ⟨_, rfl⟩
  have hql := h.lt
  have hrl := hr.lt
  have hsl := hSB.lt
  have hrd := rdRead_some r g o n c i s 1 7 32 7 t [.iface 149 (.pointer (some ⟨q, 0, none⟩))] (sc ++ [.int .i64 m, .slice none 0 0, .bool false]) 156 w.drew (hr.drewN 1) (hc.drewN 1) hn (by omega) hnc hl hSB.drew rfl (by simp; omega) (by omega) hsq.2 hgs hgr
  rw [hd, List.drop_append_of_le_length (by omega)] at hrd
  have hre := rtsRead7 q r s l ls b z aE w.drew (fun w' => Rdr w' r g o n c (i + 7) ∧ Kp [s, q, r] w w' ∧ Blk w' s 156 ((([.iface 149 (.pointer (some ⟨q, 0, none⟩))] : List Value) ++ Lib.byteCells d) ++ (sc.drop 7 ++ ([.int .i64 m, .slice none 0 0, .bool false] : List Value))).toArray) h.drew hls (hrd.mono (by
    rintro e w' ⟨rfl, hR, hB, hK⟩
    have k1 : Kp [s, q, r] w w' := Kb.kp (((Kb.refl (B := w.heap.size) (L := [s, q, r])).drewN 1).trans (hK w.heap.size [s, q, r] (.inl (by simp)) (.inl (by simp)))) (fun _ h => h)
    have k2 : Kb w.heap.size [s, r] w w' := ((Kb.refl (B := w.heap.size) (L := [s, r])).drewN 1).trans (hK w.heap.size [s, r] (.inl (by simp)) (.inl (by simp)))
    refine ⟨rfl, (k2.block q hql (by simp; omega)).trans h, ?_, hE.kp k1 (by simp; omega), hR, k1, hB⟩
    rw [hB.cell, List.getElem?_toArray, List.getElem?_append_left (by simp [Lib.byteCells_length]; omega), List.getElem?_append_right (by simp)]
    have h6 : (Lib.byteCells d)[6]? = some (.int .u8 ((d[6]'(by omega)).toNat : Nat)) := by
      simp only [Lib.byteCells, List.getElem?_map, List.getElem?_eq_getElem (show 6 < d.length by omega), Option.map_some]
    rw [← hz]
    exact h6))
  have hra := rts_ral q s 1 7 32 w _ (by omega) (by omega) (by omega) hre
  obtain ⟨q0, _, _, _, _⟩ := hS.cells
  have hw : IntKind.i64.wrap (m + 7) = m + 7 := by rw [IntKind.wrap_i64]; omega
  have H := Lib.hid hra
  have HD := Lib.hid (And.intro hdl (And.intro hsc hd))
  rw [hd]
  clear hrd hre hra h hls hr hc hn hi hnc hl hE gE hz hS hSB hdl hsc hd
  have HP : Calls Tryz.prog 147 #[.pointer (some ⟨s, 0, none⟩), .int .i64 7] w fun e w' => e = .returned (.tuple #[.slice (some ⟨s, 1, none⟩) 7 32, .nilIface]) ∧ Bs w' s 1 d ∧
      SlB w' s q (m + 7) ∧ (∃ l' b', Blk w' q 151 (rtsC r l' 2 b')) ∧ Rdr w' r g o n c (i + 7) ∧ Kp [s, q, r] w w' := by
    go_enter Tryz.func147, Tryz.ntmps147
    go_wp2_with fail
    refine H.out.mono ?_
    rintro e w1 ⟨rfl, hB, w2, ⟨hR, hK, hT⟩, hw12⟩
    have k1 : Kp [s, q, r] w w1 := by
      rw [hw12]
      exact (hK.setCell (p := ⟨q, 1, none⟩) (.inl (by simp)) _).setCell (p := ⟨q, 2, none⟩) (.inl (by simp)) _
    have R1 : Rdr w1 r g o n c (i + 7) := by
      rw [hw12]
      obtain ⟨x, R⟩ := hR
      exact ⟨x, (R.far (p := ⟨q, 1, none⟩) (fun h => hqr h.symm) _).far (p := ⟨q, 2, none⟩) (fun h => hqr h.symm) _⟩
    have T1 : Blk w1 s 156 (.iface 149 (.pointer (some ⟨q, 0, none⟩)) :: ((Lib.byteCells d ++ sc.drop 7) ++ [.int .i64 m, .slice none 0 0, .bool false])).toArray := by
      rw [hw12]
      have := (hT.far (p := ⟨q, 1, none⟩) hsq.1 (.int .u8 z)).far (p := ⟨q, 2, none⟩) hsq.1 (.int .u8 2)
      simpa using this
    have S1 : SlB w1 s q m := ⟨_, by rw [List.length_append, Lib.byteCells_length, HD.out.1, List.length_drop, HD.out.2.1], T1⟩
    have B1 : Bs w1 s 1 d := by
      intro j hj
      rw [T1.cell, List.getElem?_toArray, Nat.add_comm 1 j, List.getElem?_cons_succ, List.append_assoc, List.getElem?_append_left (by rw [Lib.byteCells_length]; exact hj)]
      simp only [Lib.byteCells, List.getElem?_map, List.getElem?_eq_getElem hj, Option.map_some]
    obtain ⟨_, c33, c35, cf, _⟩ := S1.cells
    have f33 := cf 33
    have HB := Lib.hid (And.intro hB (And.intro R1 (And.intro k1 (And.intro S1 (And.intro B1 T1)))))
    clear hB hR hK hT hw12 k1 R1 S1 cf q0 B1 T1
    go_wp2_with fail
    go_ret2
    refine ⟨rfl, ?_, HB.out.2.2.2.1.count _, ⟨_, _, HB.out.1.far (p := ⟨s, 33, none⟩) (fun h => hsq.1 h.symm) _⟩, ?_, ?_⟩
    · intro j hj
      rw [World.cell?_setCell_other (h := by intro e; have := congrArg Addr.off e; simp at this; have := HD.out.1; omega)]
      exact HB.out.2.2.2.2.1 j hj
    · obtain ⟨x, R⟩ := HB.out.2.1
      exact ⟨x, R.far (p := ⟨s, 33, none⟩) (fun h => hsq.2 h.symm) _⟩
    · exact HB.out.2.2.1.setCell (p := ⟨s, 33, none⟩) (.inl (by simp)) _
  have HPP := Lib.hid HP
  clear HP H q0
  go_enter Tryz.func143, Tryz.ntmps143
  go_wp2_with fail
  refine HPP.out.mono ?_
  rintro e w1 ⟨rfl, hx⟩
  have HX := Lib.hid hx
  clear hx
  go_wp2_with fail
  go_ret2
  exact ⟨rfl, HX.out⟩
end Go.Proofs.YtakkdpbpoghfgaaGreatDoor
