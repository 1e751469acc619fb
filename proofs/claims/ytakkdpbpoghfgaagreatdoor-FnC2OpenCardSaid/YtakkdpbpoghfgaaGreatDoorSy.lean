/-
  io.ReadFull over an io.SectionReader of 40 bytes from number 11 on, over a bytes.Reader: all bytes, or too few. Conditions: as each contract says.
-/
import Derived.Test.YtakkdpbpoghfgaaGreatDoorSx
namespace Go.Proofs.YtakkdpbpoghfgaaGreatDoor
open Go.RowKit

set_option maxRecDepth 100000 in
set_option maxHeartbeats 2000000 in
theorem secFull (p r g on n c i x gd m cd : Nat) (l : List UInt8) (zs : List Value) (t : TypeId) (vE : Value) (w : World) (h : Blk w p 103 (secC r x)) (hr : Rdr w r g on n c i) (hc : Bs w g on l) (hn : n = l.length) (hm : x + m ≤ 51) (hm0 : 0 < m) (hfit : x + m ≤ n) (hnc : n ≤ c) (hl : l.length ≤ 2147483647)
    (hd : Blk w gd t zs.toArray) (hz : zs.length = m) (hcd : m ≤ cd) (hpg : p ≠ gd) (hE : w.cell? ⟨4, 0, none⟩ = some vE) (gE : 4 ≠ gd) :
    Calls Tryz.prog 49 #[.iface 95 (.pointer (some ⟨p, 0, none⟩)), .slice (some ⟨gd, 0, none⟩) m cd] w fun e w' => e = .returned (.tuple #[.int .i64 m, .nilIface]) ∧
      Blk w' p 103 (secC r ((x : Int) + m)) ∧ Blk w' gd t (Lib.byteCells ((l.drop x).take m)).toArray ∧ (∀ B L, (p ∈ L ∨ B ≤ p) → (gd ∈ L ∨ B ≤ gd) → Kb B L w w') := by
  have hpl := h.lt
  have hgl := hd.lt
  have hrd := secRead_gen p r x m m (some ⟨gd, 0, none⟩) cd .nilIface w.drew (fun w' => Blk w' gd t (Lib.byteCells ((l.drop x).take m)).toArray ∧ (∀ B L, (gd ∈ L ∨ B ≤ gd) → Kb B L w w')) h.drew (by omega) (by omega) (by omega) hm0 (by omega) (by
    intro j
    have hra := readAt_some r g on n c i x gd 0 m cd m l [] zs t vE (w.drew.drewN j) ((hr.drewN 1).drewN j) ((hc.drewN 1).drewN j) hn (by omega) hnc hl (hd.drew.drewN j) rfl (by omega) (by omega) (by omega) hE gE
    rw [if_neg (by omega), List.nil_append, show zs.drop m = [] from List.drop_of_length_le (by omega), List.append_nil] at hra
    refine hra.mono ?_
    rintro e w' ⟨rfl, hB, hK⟩
    have k1 := (((Kb.refl (B := p + 1) (L := [gd]) (a := w)).drewN 1).drewN j).trans (hK (p + 1) [gd] (.inl (by simp)))
    exact ⟨rfl, (k1.block p (by omega) (by simpa using hpg)).trans h, hB, fun B L hL => (((Kb.refl (B := B) (L := L) (a := w)).drewN 1).drewN j).trans (hK B L hL)⟩)
  refine (sec_full p gd 0 m cd w _ hm0 (by omega) hcd hrd).mono ?_
  rintro e w' ⟨rfl, hB, w1, ⟨hD, hK⟩, hw⟩
  refine ⟨rfl, hB, ?_, ?_⟩
  · rw [hw]; exact hD.far (p := ⟨p, 2, none⟩) (fun h => hpg h.symm) _
  · intro B L h1 h2
    rw [hw]
    exact (hK B L h2).setCell (p := ⟨p, 2, none⟩) h1 _

set_option maxRecDepth 100000 in
set_option maxHeartbeats 2000000 in
theorem secShort (p r g on n c i x gd m cd : Nat) (l : List UInt8) (zs : List Value) (t : TypeId) (aE aU : Addr) (w : World) (h : Blk w p 103 (secC r x)) (hr : Rdr w r g on n c i) (hc : Bs w g on l) (hn : n = l.length) (hm : x + m ≤ 51) (hm0 : 0 < m) (hx : x ≤ n) (hfit : n < x + m) (hnc : n ≤ c) (hl : l.length ≤ 2147483647)
    (hd : Blk w gd t zs.toArray) (hz : zs.length = m) (hcd : m ≤ cd) (hpg : p ≠ gd) (hE : Ee w 4 aE) (hU : Ee w 5 aU) (gE : 4 ≠ gd ∧ 4 ≠ p) (gU : 5 ≠ gd ∧ 5 ≠ p) :
    Calls Tryz.prog 49 #[.iface 95 (.pointer (some ⟨p, 0, none⟩)), .slice (some ⟨gd, 0, none⟩) m cd] w fun e w' => (∃ (k : Int) (a : Addr), e = .returned (.tuple #[.int .i64 k, .iface 92 (.pointer (some a))])) ∧
      (∀ B L, (p ∈ L ∨ B ≤ p) → (gd ∈ L ∨ B ≤ gd) → Kb B L w w') := by
  have hpl := h.lt
  have hgl := hd.lt
  obtain ⟨k, hk⟩ : ∃ k, n - x = k := ⟨_, rfl⟩
  have hrd := secRead_gen p r x k m (some ⟨gd, 0, none⟩) cd (.iface 92 (.pointer (some aE))) w.drew (fun w' => ∀ B L, (gd ∈ L ∨ B ≤ gd) → Kb B L w w') h.drew (by omega) (by omega) (by omega) hm0 (by omega) (by
    intro j
    by_cases hxn : x = n
    · have hra := readAt_end r g on n c i x (.iface 92 (.pointer (some aE))) (.slice (some ⟨gd, 0, none⟩) m cd) (w.drew.drewN j) ((hr.drewN 1).drewN j) (by omega) (by omega) hE
      refine hra.mono ?_
      rintro e w' ⟨rfl, hH, hK⟩
      have hk0 : k = 0 := by omega
      subst hk0
      exact ⟨rfl, by unfold Blk; rw [hH]; exact h, fun B L _ => (((Kb.refl (B := B) (L := L) (a := w)).drewN 1).drewN j).trans (hK B L)⟩
    · have hra := readAt_some r g on n c i x gd 0 m cd k l [] zs t (.iface 92 (.pointer (some aE))) (w.drew.drewN j) ((hr.drewN 1).drewN j) ((hc.drewN 1).drewN j) hn (by omega) hnc hl (hd.drew.drewN j) rfl (by omega) (by omega) (by omega) hE gE.1
      rw [if_pos (by omega)] at hra
      refine hra.mono ?_
      rintro e w' ⟨rfl, hB, hK⟩
      have k1 := (((Kb.refl (B := p + 1) (L := [gd]) (a := w)).drewN 1).drewN j).trans (hK (p + 1) [gd] (.inl (by simp)))
      exact ⟨rfl, (k1.block p (by omega) (by simpa using hpg)).trans h, fun B L hL => (((Kb.refl (B := B) (L := L) (a := w)).drewN 1).drewN j).trans (hK B L hL)⟩)
  refine (sec_fullS p gd 0 m cd k aE aU w _ (by omega) (by omega) hcd hrd ?_).mono ?_
  · rintro w' ⟨_, w1, hK, rfl⟩
    have k1 := (hK (w.heap.size) [gd, p] (.inl (by simp))).setCell (p := ⟨p, 2, none⟩) (.inl (by simp)) (.int .i64 ((x : Int) + k))
    exact ⟨hE.kb k1 hE.lt (by simpa using gE), hU.kb k1 hU.lt (by simpa using gU)⟩
  · rintro e w' ⟨⟨a, rfl⟩, hB, w1, hK, hw⟩
    refine ⟨⟨_, a, rfl⟩, ?_⟩
    intro B L h1 h2
    rw [hw]
    exact (hK B L h2).setCell (p := ⟨p, 2, none⟩) h1 _
end Go.Proofs.YtakkdpbpoghfgaaGreatDoor
