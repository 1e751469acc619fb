/-
  The walks of internalio.ToByteReader, util.LdReadSize, util.LdRead over a bytes.Reader. Conditions: as each contract says.
-/
import Derived.Test.YtlafdmmjbkdkaaaGreatDoorJRd
import Derived.Stop.Asserts
namespace Go.Proofs.YtlafdmmjbkdkaaaGreatDoor
open Go.RowKit

set_option maxRecDepth 100000 in
theorem toByteReader_any (r : Nat) (w : World) :
    Calls Tryz.prog 93 #[.iface 51 (.pointer (some ⟨r, 0, none⟩))] w fun e w' => e = .returned (.iface 51 (.pointer (some ⟨r, 0, none⟩))) ∧ w = w' := by
  have hta := fun W t => run_typeAssert_hasB (P := Tryz.prog) (asserted := 183) (t := 51) Tryz.underlying183 (by kernel_rfl) (.pointer (some ⟨r, 0, none⟩)) t W
  go_enter Tryz.func93, Tryz.ntmps93
  go_wp2_with fail
  go_ret
  exact ⟨rfl, rfl⟩

/-- What LdReadSize comes to, where the bytes begin with a number that is not 0, or with nothing at all. -/
def LsPost (r g o n c v k most : Nat) (empty : Bool) (aE aS : Addr) (w : World) (e : Ending) (w' : World) : Prop :=
  Kp [r] w w' ∧ ∃ j, j ≤ n ∧ Rdr w' r g o n c j ∧
    (empty = true → e = .returned (.tuple #[.int .u64 0, .iface 110 (.pointer (some aE))]) ∧ j = 0) ∧
    (empty = false → most < v → e = .returned (.tuple #[.int .u64 0, .iface 110 (.pointer (some aS))])) ∧
    (empty = false → v ≤ most → e = .returned (.tuple #[.int .u64 v, .nilIface]) ∧ j = k)

set_option maxRecDepth 100000 in
set_option maxHeartbeats 2000000 in
theorem ldReadSize_any (r g o n c v k most : Nat) (empty ze : Bool) (l : List UInt8) (aE aU aO aM aS : Addr) (w : World) (h : Rdr w r g o n c 0) (hc : Bs w g o l) (hn : n = l.length) (hl : l.length ≤ 1000000000) (hgr : g ≠ r) (_hm : most < 18446744073709551616)
    (hr : if empty then l = [] else (uvRd l 0 0 = .ok v k ∧ 1 ≤ v ∧ v < 9223372036854775808))
    (eE : Ee w 2 aE) (eU : Ee w 7 aU) (eO : Ee w 10 aO) (eM : Ee w 11 aM) (eS : Ee w 3 aS)
    (rE : r ≠ 2) (rU : r ≠ 7) (rO : r ≠ 10) (rM : r ≠ 11) (rS : r ≠ 3) :
    Calls Tryz.prog 80 #[.iface 51 (.pointer (some ⟨r, 0, none⟩)), .bool ze, .int .u64 (most : Nat)] w (LsPost r g o n c v k most empty aE aS w) := by
  have hru := readUvarint_any r g o n c 0 l aE aU aO aM w h hc hn (Nat.zero_le _) (by omega) hgr eE eU eO eM rE rU rO rM
  rw [List.drop_zero] at hru
  have HR := Lib.hid hru
  have HE := Lib.hid (And.intro eS rS)
  have HN := Lib.hid hn
  clear hru h hc hn eE eU eO eM eS rE rU rO rM rS
  cases empty with
  | true =>
    simp only [if_true] at hr
    have hru := HR.out
    rw [hr, show uvRd [] 0 0 = .ends from rfl] at hru
    have HRU := Lib.hid hru
    have HL := Lib.hid (And.intro hr HN.out)
    clear hr hru
    go_enter Tryz.func80, Tryz.ntmps80
    go_wp2_with fail
    refine (toByteReader_any r w).mono ?_
    rintro e w1 ⟨rfl, rfl⟩
    go_wp2_with fail
    refine HRU.out.mono ?_
    rintro e w2 ⟨K2, j, hj, R2, he⟩
    have hn0 : n = 0 := by rw [HL.out.2, HL.out.1]; rfl
    rw [if_pos hn0.symm] at he
    have hj0 : j = 0 := by omega
    have HJ := Lib.hid hj0
    clear hn0 hj0
    subst he
    go_wp2_with fail
    go_ret2
    exact ⟨K2, j, hj, R2, fun _ => ⟨rfl, HJ.out⟩, fun h => by (cases h), fun h => by (cases h)⟩
  | false =>
    simp only [Bool.false_eq_true, if_false] at hr
    obtain ⟨hr, hv1, hv2⟩ := hr
    have hru := HR.out
    rw [hr] at hru
    have HRU := Lib.hid hru
    have hv0 : ((v : Int) == 0) = false := by simp; omega
    clear hr hru
    by_cases hb : v ≤ most
    · have hbd : decide (most < v) = false := by simp; omega
      go_enter Tryz.func80, Tryz.ntmps80
      go_wp2_with fail
      refine (toByteReader_any r w).mono ?_
      rintro e w1 ⟨rfl, rfl⟩
      go_wp2_with fail
      refine HRU.out.mono ?_
      rintro e w2 ⟨K2, j, hj, R2, rfl, rfl⟩
      rw [Nat.zero_add] at R2 hj
      go_wp2_with fail
      go_ret2
      exact ⟨K2, k, hj, R2, fun h => by (cases h), fun _ h => absurd h (by omega), fun _ _ => ⟨rfl, rfl⟩⟩
    · have hbd : decide (most < v) = true := by simp; omega
      go_enter Tryz.func80, Tryz.ntmps80
      go_wp2_with fail
      refine (toByteReader_any r w).mono ?_
      rintro e w1 ⟨rfl, rfl⟩
      go_wp2_with fail
      refine HRU.out.mono ?_
      rintro e w2 ⟨K2, j, hj, R2, rfl, rfl⟩
      rw [Nat.zero_add] at R2 hj
      have hS2 : Ee w2 3 aS := HE.out.1.kp K2 (by simpa using fun h => HE.out.2 h.symm)
      unfold Ee at hS2
      have hhK := fun j => K2.drewN j
      have hhR : ∀ j, Rdr (w2.drewN j) r g o n c k := fun j => by obtain ⟨q, R2⟩ := R2; exact ⟨q, R2.drewN j⟩
      have HH := Lib.hid (And.intro hhK hhR)
      clear hhK hhR K2 R2
      go_wp2_with fail
      go_quiet (fail)
      go_wp2_with fail
      go_ret2
      exact ⟨HH.out.1 _, k, hj, HH.out.2 _, fun h => by (cases h), fun _ _ => rfl, fun _ h => absurd h (by omega)⟩

/-- What LdRead comes to. -/
def LrPost (r g o n c v k most : Nat) (empty : Bool) (l : List UInt8) (aE aS : Addr) (w : World) (e : Ending) (w' : World) : Prop :=
  Kp [r] w w' ∧ ∃ j, j ≤ n ∧ Rdr w' r g o n c j ∧
    (empty = true → e = .returned (.tuple #[.slice none 0 0, .iface 110 (.pointer (some aE))]) ∧ j = 0) ∧
    (empty = false → most < v → e = .returned (.tuple #[.slice none 0 0, .iface 110 (.pointer (some aS))])) ∧
    (empty = false → v ≤ most → ∃ gd, e = .returned (.tuple #[.slice (some ⟨gd, 0, none⟩) v v, .nilIface]) ∧ Bs w' gd 0 ((l.drop k).take v) ∧ w.heap.size ≤ gd ∧ gd < w'.heap.size ∧ j = k + v)

set_option maxRecDepth 100000 in
set_option maxHeartbeats 4000000 in
theorem ldReadU_any (r g o n c v k most : Nat) (empty ze : Bool) (l : List UInt8) (aE aU aO aM aS : Addr) (w : World) (h : Rdr w r g o n c 0) (hc : Bs w g o l) (hn : n = l.length) (hnc : n ≤ c) (hl : l.length ≤ 1000000000) (hgr : g ≠ r) (hglt : g < w.heap.size) (hm : most < 18446744073709551616)
    (hr : if empty then l = [] else (uvRd l 0 0 = .ok v k ∧ 1 ≤ v ∧ v < 9223372036854775808)) (hfit : empty = false → v ≤ most → v + k ≤ n)
    (eE : Ee w 2 aE) (eU : Ee w 7 aU) (eO : Ee w 10 aO) (eM : Ee w 11 aM) (eS : Ee w 3 aS)
    (rE : r ≠ 2) (rU : r ≠ 7) (rO : r ≠ 10) (rM : r ≠ 11) (rS : r ≠ 3) :
    Calls Tryz.prog 72 #[.iface 51 (.pointer (some ⟨r, 0, none⟩)), .bool ze, .int .u64 (most : Nat)] w (LrPost r g o n c v k most empty l aE aS w) := by
  have hls := ldReadSize_any r g o n c v k most empty ze l aE aU aO aM aS w h hc hn hl hgr hm hr eE eU eO eM eS rE rU rO rM rS
  have hrl := h.lt
  have HS := Lib.hid hls
  have HE := Lib.hid (And.intro eE (And.intro eU (And.intro rE rU)))
  have HC := Lib.hid (And.intro hc (And.intro hn (And.intro hr hfit)))
  clear hls h hc hn hr hfit eE eU eO eM eS rE rU rO rM rS
  cases empty with
  | true =>
    go_enter Tryz.func72, Tryz.ntmps72
    go_wp2_with fail
    refine HS.out.mono ?_
    rintro e w1 ⟨K1, j, hj, R1, h1, _, _⟩
    obtain ⟨rfl, hj0⟩ := h1 rfl
    have HJ := Lib.hid hj0
    clear hj0 h1
    go_wp2_with fail
    go_ret2
    exact ⟨K1, j, hj, R1, fun _ => ⟨rfl, HJ.out⟩, fun h => by (cases h), fun h => by (cases h)⟩
  | false =>
    by_cases hb : v ≤ most
    · have hvk := HC.out.2.2.2 rfl hb
      have hcr := HC.out.2.2.1
      simp only [Bool.false_eq_true, if_false] at hcr
      have hv1 := hcr.2.1
      have hnl := HC.out.2.1
      have hn9 : n ≤ 1000000000 := by omega
      obtain ⟨i0, hi0, hz0, hz1, hz2⟩ := info_parts info5
      have hmk : ∀ W : World, (Instr.makeSlice 45 (.int .u64 v) (.int .u64 v)).run Tryz.prog W = .ok (.slice (some ⟨W.heap.size, 0, none⟩) v v) (W.alloc (.cells (List.replicate v (.int .u8 0)).toArray 5)) := by
        intro W
        have hr := run_make (P := Tryz.prog) W 45 5 i0 (.int .u8 0) Tryz.underlying45 hi0 hz0 .u64 .u64 v v (by omega) (by omega) (by rw [hz2]; omega) (by omega)
        have ht0 : madeCells #[Value.int .u8 0] v = (List.replicate v (Value.int .u8 0)).toArray := by
          rw [← toList_madeCells_one (.int .u8 0) v]
        rw [← ht0]
        simpa [hz1, Value.cells] using hr
      obtain ⟨zs, hzs⟩ : ∃ zs, List.replicate v (Value.int .u8 0) = zs := ⟨_, rfl⟩
      rw [hzs] at hmk
      have hzl : zs.length = v := by rw [← hzs, List.length_replicate]
      have HZ := Lib.hid hzl
      clear hzs hzl hi0 hz0 hz1 hz2 hcr hnl
      go_enter Tryz.func72, Tryz.ntmps72
      go_wp2_with fail
      refine HS.out.mono ?_
      rintro e w1 ⟨K1, j, hj, R1, _, _, h3⟩
      obtain ⟨rfl, hjk⟩ := h3 rfl hb
      subst hjk
      clear h3
      have hs1 := K1.size
      have Z1 := Blk.new w1 5 zs.toArray
      have K2 := K1.alloc (.cells zs.toArray 5)
      have R2 : Rdr (w1.alloc (.cells zs.toArray 5)) r g o n c j := by obtain ⟨q, R1⟩ := R1; exact ⟨q, R1.alloc _⟩
      go_wp2_with fail
      generalize w1.alloc (.cells zs.toArray 5) = w2 at *
      have c2 := HC.out.1.kp K2 (by simpa using hgr)
      have gE := HE.out.1.lt
      have gU := HE.out.2.1.lt
      have hrf := readFull_any r g o n c j w1.heap.size 0 v v l [] zs 5 aE aU w2 R2 c2 HC.out.2.1 hj hnc (by omega) Z1 rfl (by rw [HZ.out]; exact Nat.le_refl _) (by omega) (Nat.le_refl _) (by omega) (by omega) hgr
        (HE.out.1.kp K2 (by simpa using fun h => HE.out.2.2.1 h.symm)) (HE.out.2.1.kp K2 (by simpa using fun h => HE.out.2.2.2 h.symm)) ⟨fun h => HE.out.2.2.1 h.symm, by omega⟩ ⟨fun h => HE.out.2.2.2 h.symm, by omega⟩
      have HRF := Lib.hid hrf
      have HW := Lib.hid (And.intro K2 Z1)
      have zg : w1.heap.size < w2.heap.size := Z1.lt
      clear hrf hmk R1 R2 c2 K1 K2 Z1
      refine HRF.out.mono ?_
      rintro e w3 ⟨hK3, hy, _⟩
      obtain ⟨rfl, R3, Z3⟩ := hy (by omega)
      clear hy
      have K3 : Kp [r] w w3 := HW.out.1.step (Kb.kp (l := [r, w1.heap.size]) (hK3 w2.heap.size [r, w1.heap.size] (.inl (by simp)) (.inl (by simp))) (fun i hi => hi)) (by
        intro i hi
        simp only [List.mem_cons, List.not_mem_nil, or_false] at hi
        rcases hi with rfl | rfl
        · exact .inl (by simp)
        · exact .inr hs1)
      go_wp2_with fail
      go_ret2
      refine ⟨K3, j + v, by omega, R3, fun h => by (cases h), fun _ h => absurd h (by omega), fun _ _ => ⟨w1.heap.size, rfl, ?_, hs1, Z3.lt, rfl⟩⟩
      rw [List.nil_append] at Z3
      intro q hq
      rw [Nat.zero_add, Z3.cell, List.getElem?_toArray, List.getElem?_append_left (by rw [Lib.byteCells_length]; exact hq)]
      simp only [Lib.byteCells, List.getElem?_map, List.getElem?_eq_getElem hq, Option.map_some]
    · have hb' : most < v := by omega
      go_enter Tryz.func72, Tryz.ntmps72
      go_wp2_with fail
      refine HS.out.mono ?_
      rintro e w1 ⟨K1, j, hj, R1, _, h2, _⟩
      obtain rfl := h2 rfl hb'
      clear h2
      go_wp2_with fail
      go_ret2
      exact ⟨K1, j, hj, R1, fun h => by (cases h), fun _ _ => rfl, fun _ h => absurd h hb⟩
end Go.Proofs.YtlafdmmjbkdkaaaGreatDoor
