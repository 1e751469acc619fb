/-
  internalio.NewOffsetReadSeeker over a bytes.Reader; util.LdReadSize and util.LdRead over that, where the bytes begin with the pragma of version 2. Conditions: as each contract says.
-/
import Derived.Test.YtakkdpbpoghfgaaGreatDoorRu
import Derived.Stop.Asserts
namespace Go.Proofs.YtakkdpbpoghfgaaGreatDoor
open Go.RowKit

/-- The pragma behind its length. -/
def pt : List UInt8 := [161, 103, 118, 101, 114, 115, 105, 111, 110, 2]

set_option maxRecDepth 100000 in
set_option maxHeartbeats 2000000 in
theorem newOrs_any (r : Nat) (w : World) :
    Calls Tryz.prog 15 #[.iface 59 (.pointer (some ⟨r, 0, none⟩)), .int .i64 0] w fun e w' =>
      e = .returned (.tuple #[.iface 80 (.pointer (some ⟨w.heap.size, 0, none⟩)), .nilIface]) ∧ Blk w' w.heap.size 84 (orsC r 0 (.int .u8 0)) ∧ Below w.heap.size w w' := by
  have hta : ∀ W, (Instr.typeAssert (.iface 59 (.pointer (some ⟨r, 0, none⟩))) 42 80 true).run Tryz.prog W = .ok (.tuple #[.pointer none, .bool false]) W := fun W => by kernel_rfl
  go_enter Tryz.func15, Tryz.ntmps15
  go_wp2_with fail
  go_ret2
  exact ⟨rfl, Blk.new _ _ _, Old.alloc (Below.refl _ _) _⟩

set_option maxRecDepth 100000 in
theorem toByteReaderO_any (o : Nat) (w : World) :
    Calls Tryz.prog 57 #[.iface 80 (.pointer (some ⟨o, 0, none⟩))] w fun e w' => e = .returned (.iface 80 (.pointer (some ⟨o, 0, none⟩))) ∧ w = w' := by
  have hta := fun W t => run_typeAssert_hasB (P := Tryz.prog) (asserted := 127) (t := 80) Tryz.underlying127 (by kernel_rfl) (.pointer (some ⟨o, 0, none⟩)) t W
  go_enter Tryz.func57, Tryz.ntmps57
  go_wp2_with fail
  go_ret
  exact ⟨rfl, rfl⟩

set_option maxRecDepth 100000 in
set_option maxHeartbeats 2000000 in
theorem ldSizeO (o : Nat) (w : World) (Post : World → Prop)
    (HR : Calls Tryz.prog 122 #[.pointer (some ⟨o, 0, none⟩)] w fun e w' => e = .returned (.tuple #[.int .u8 10, .nilIface]) ∧ Post w') :
    Calls Tryz.prog 51 #[.iface 80 (.pointer (some ⟨o, 0, none⟩)), .bool false, .int .u64 33554432] w fun e w' => e = .returned (.tuple #[.int .u64 10, .nilIface]) ∧ Post w' := by
  have H := Lib.hid (uvOne o w Post HR)
  clear HR
  go_enter Tryz.func51, Tryz.ntmps51
  go_wp2_with fail
  refine (toByteReaderO_any o w).mono ?_
  rintro e w1 ⟨rfl, rfl⟩
  go_wp2_with fail
  refine H.out.mono ?_
  rintro e w2 ⟨rfl, hP⟩
  have HP := Lib.hid hP
  clear hP
  go_wp2_with fail
  go_ret2
  exact ⟨rfl, HP.out⟩

set_option maxRecDepth 100000 in
set_option maxHeartbeats 4000000 in
theorem ldReadO (o r g on n c i : Nat) (b : Int) (rest l : List UInt8) (vE : Value) (w : World) (hpl : l = 10 :: (pt ++ rest)) (h : Blk w o 84 (orsC r 0 (.int .u8 b))) (hr : Rdr w r g on n c i) (hc : Bs w g on l) (hn : n = l.length) (hnc : n ≤ c) (hl : l.length ≤ 2147483647)
    (hgo : g ≠ o) (hro : r ≠ o) (hE : w.cell? ⟨4, 0, none⟩ = some vE) (gE : 4 ≠ o) (gEl : 4 < w.heap.size) (hgl : g < w.heap.size) :
    Calls Tryz.prog 46 #[.iface 80 (.pointer (some ⟨o, 0, none⟩)), .bool false, .int .u64 33554432] w fun e w' => ∃ G, e = .returned (.tuple #[.slice (some ⟨G, 0, none⟩) 10 10, .nilIface]) ∧
      Bs w' G 0 pt ∧ w.heap.size ≤ G ∧ Kp [o] w w' := by
  have hl11 : 11 ≤ l.length := by rw [hpl]; simp [pt]
  have hby := orsByte_any o r g on n c i 0 b l vE w h hr hc hn (by omega) hnc hl hE gE
  have h0 : (l[0]'(by omega)).toNat = 10 := by simp [hpl]
  rw [h0] at hby
  have hpt : (l.drop 1).take 10 = pt := by rw [hpl]; rfl
  have HS := Lib.hid (ldSizeO o w _ hby)
  obtain ⟨i0, hi0, hz0, hz1, hz2⟩ := info_parts info5
  have hmk : ∀ W : World, (Instr.makeSlice 54 (.int .u64 10) (.int .u64 10)).run Tryz.prog W = .ok (.slice (some ⟨W.heap.size, 0, none⟩) 10 10) (W.alloc (.cells (List.replicate 10 (.int .u8 0)).toArray 5)) := by
    intro W
    have hr := run_make (P := Tryz.prog) W 54 5 i0 (.int .u8 0) Tryz.underlying54 hi0 hz0 .u64 .u64 10 10 (by omega) (by omega) (by rw [hz2]; omega) (by omega)
    have ht0 : madeCells #[Value.int .u8 0] 10 = (List.replicate 10 (Value.int .u8 0)).toArray := by
      rw [← toList_madeCells_one (.int .u8 0) 10]
    rw [← ht0]
    simpa [hz1, Value.cells] using hr
  obtain ⟨zs, hzs⟩ : ∃ zs, List.replicate 10 (Value.int .u8 0) = zs := ⟨_, rfl⟩
  rw [hzs] at hmk
  have hzl : zs.length = 10 := by rw [← hzs, List.length_replicate]
  have HZ := Lib.hid (And.intro hzl (And.intro hpt (And.intro hn (And.intro hl11 (And.intro hnc hl)))))
  have HH := Lib.hid (And.intro hr (And.intro hc (And.intro hE gE)))
  have hrl := hr.lt
  clear hby h0 hpt hzl hzs hi0 hz0 hz1 hz2 h hr hc hE hpl hn hl11 hnc hl
  go_enter Tryz.func46, Tryz.ntmps46
  go_wp2_with fail
  refine HS.out.mono ?_
  rintro e w1 ⟨rfl, B1, K1⟩
  have hs1 := K1.size
  have Z1 := Blk.new w1 5 zs.toArray
  have K2 := K1.alloc (.cells zs.toArray 5)
  have B2 := B1.alloc (.cells zs.toArray 5)
  have R2 : Rdr (w1.alloc (.cells zs.toArray 5)) r g on n c i := by
    obtain ⟨q, R⟩ := HH.out.1
    exact ⟨q, R.kp K2 (by simpa using hro)⟩
  have hol := B1.lt
  go_wp2_with fail
  generalize w1.alloc (.cells zs.toArray 5) = w2 at *
  have c2 := HH.out.2.1.kp K2 (by simpa using hgo)
  have E2 : w2.cell? ⟨4, 0, none⟩ = some vE := (K2.cell (p := ⟨4, 0, none⟩) gEl (by simpa using HH.out.2.2.2)).trans HH.out.2.2.1
  have zg : w1.heap.size < w2.heap.size := Z1.lt
  have hra := readAt_some r g on n c i 1 w1.heap.size 0 10 10 10 l [] zs 5 vE w2.drew.drew ((R2.drewN 1).drewN 1) ((c2.drewN 1).drewN 1) HZ.out.2.2.1 (by have := HZ.out.2.2; omega) HZ.out.2.2.2.2.1 HZ.out.2.2.2.2.2 Z1.drew.drew rfl (by rw [HZ.out.1]; exact Nat.le_refl _) (by omega) (by have := HZ.out.2.2; omega) E2 (by omega)
  rw [if_neg (by omega), HZ.out.2.1, List.nil_append, List.drop_of_length_le (by rw [HZ.out.1]; exact Nat.le_refl _), List.append_nil] at hra
  have hrd := orsRead_gen o r 1 10 (.slice (some ⟨w1.heap.size, 0, none⟩) 10 10) .nilIface (.int .u8 10) (.int .u8 10) w2.drew (fun w' => Bs w' w1.heap.size 0 pt ∧ Kb w2.heap.size [w1.heap.size] w2 w') B2.drew (by omega) (by omega) (by omega)
    (hra.mono (by
      rintro e w' ⟨rfl, hB, hK⟩
      have k1 := ((Kb.refl (B := w2.heap.size) (L := [w1.heap.size]) (a := w2)).drewN 2).trans (hK _ _ (.inl (by simp)))
      exact ⟨rfl, (k1.block o (by omega) (by simp; omega)).trans B2, bs_blk hB, k1⟩))
  have hrf := ors_full o w1.heap.size 0 10 10 w2 _ (by omega) (by omega) (by omega) hrd
  have HRF := Lib.hid hrf
  have HK := Lib.hid K2
  clear hrf hrd hra R2 c2 E2 K1 K2 B1 B2 Z1 hmk
  refine HRF.out.mono ?_
  rintro e w3 ⟨rfl, B3, w4, ⟨hS, hK⟩, h34⟩
  have HF := Lib.hid (And.intro hS (And.intro hK h34))
  clear hS hK h34 B3
  go_wp2_with fail
  go_ret2
  refine ⟨w1.heap.size, rfl, ?_, hs1, ?_⟩
  · rw [HF.out.2.2]
    exact HF.out.1.far (p := ⟨o, 2, none⟩) (by show w1.heap.size ≠ o; omega) _
  · rw [HF.out.2.2]
    refine Kp.setCell (p := ⟨o, 2, none⟩) ?_ (.inl (by simp)) _
    exact HK.out.step (Kb.kp (l := [w1.heap.size]) HF.out.2.1 (fun _ h => h)) (by intro j hj; simp at hj; omega)
end Go.Proofs.YtakkdpbpoghfgaaGreatDoor
