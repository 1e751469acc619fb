/-
  A byte of an offsetReadSeeker; varint.ReadUvarint of one byte; util.LdReadSize and util.LdRead over it. Conditions: as each contract says.
-/
import Derived.Test.YtakkdpbpoghfgaaGreatDoorRa
import Derived.Test.YtakkdpbpoghfgaaGreatDoorRk
namespace Go.Proofs.YtakkdpbpoghfgaaGreatDoor
open Go.RowKit

set_option maxRecDepth 100000 in
set_option maxHeartbeats 2000000 in
theorem orsByte_any (o r g on n c i x : Nat) (b : Int) (l : List UInt8) (vE : Value) (w : World) (h : Blk w o 84 (orsC r x (.int .u8 b))) (hr : Rdr w r g on n c i) (hc : Bs w g on l) (hn : n = l.length) (hx : x < l.length) (hnc : n ≤ c) (hl : l.length ≤ 2147483647)
    (hE : w.cell? ⟨4, 0, none⟩ = some vE) (gE : 4 ≠ o) :
    Calls Tryz.prog 122 #[.pointer (some ⟨o, 0, none⟩)] w fun e w' => e = .returned (.tuple #[.int .u8 ((l[x].toNat : Nat) : Int), .nilIface]) ∧
      Blk w' o 84 (orsC r ((x : Int) + 1) (.int .u8 ((l[x].toNat : Nat) : Int))) ∧ Kp [o] w w' := by
  obtain ⟨z, hz⟩ : ∃ z : Nat, l[x].toNat = z := ⟨_, rfl⟩
  have ht : Lib.byteCells ((l.drop x).take 1) = [.int .u8 (z : Int)] := by
    rw [List.drop_eq_getElem_cons hx, ← hz]
    rfl
  have hra := readAt_some r g on n c i x o 3 1 1 1 l [.iface 59 (.pointer (some ⟨r, 0, none⟩)), .int .i64 0, .int .i64 x] [.int .u8 b] 84 vE w.drew (hr.drewN 1) (hc.drewN 1) hn (by omega) hnc hl h.drew rfl (by simp) (by omega) (by omega) hE gE
  rw [if_neg (by omega), ht] at hra
  have hrd := orsRead_gen o r x 1 (.slice (some ⟨o, 3, none⟩) 1 1) .nilIface (.int .u8 b) (.int .u8 z) w (fun w' => Kp [o] w w') h (by omega) (by omega) (by omega)
    (hra.mono (by rintro e w' ⟨rfl, hB, hK⟩; exact ⟨rfl, hB, (((Kb.refl (B := w.heap.size) (L := [o])).drewN 1).trans (hK _ _ (.inl (by simp)))).kp (by simp)⟩))
  have HR := Lib.hid hrd
  rw [hz]
  clear hra hrd h hr hc hn hx hnc hl hE gE hz ht
  go_enter Tryz.func122, Tryz.ntmps122
  go_wp2_with fail
  refine HR.out.mono ?_
  rintro e w1 ⟨rfl, hB, w2, hK, hw⟩
  have q3 : w1.cell? ⟨o, 3, none⟩ = some (.int .u8 z) := hB.cell 3
  have HB := Lib.hid (And.intro hB (And.intro hK hw))
  clear hB hK hw
  go_wp2_with fail
  go_ret2
  refine ⟨rfl, HB.out.1, ?_⟩
  rw [HB.out.2.2]
  exact HB.out.2.1.setCell (p := ⟨o, 2, none⟩) (.inl (by simp)) _

set_option maxRecDepth 100000 in
set_option maxHeartbeats 2000000 in
theorem uvOne (o : Nat) (w : World) (Post : World → Prop)
    (HR : Calls Tryz.prog 122 #[.pointer (some ⟨o, 0, none⟩)] w fun e w' => e = .returned (.tuple #[.int .u8 10, .nilIface]) ∧ Post w') :
    Calls Tryz.prog 56 #[.iface 80 (.pointer (some ⟨o, 0, none⟩))] w fun e w' => e = .returned (.tuple #[.int .u64 10, .nilIface]) ∧ Post w' := by
  have hmr : ∀ W, (method 334 80 (.pointer (some ⟨o, 0, none⟩)) "ReadByte").run Tryz.prog W = .ok (122, .pointer (some ⟨o, 0, none⟩)) W := fun _ => by kernel_rfl
  have H := Lib.hid HR
  clear HR
  go_enter Tryz.func56, Tryz.ntmps56
  go_wp2_with fail
  go_loopw [4, 5] (fun x s wr => x = .int .u64 0 ∧ s = .int .u64 0 ∧ wr = w) (fun _ _ _ => 0)
  case atStart => exact ⟨rfl, rfl, rfl⟩
  case round =>
    obtain ⟨rfl, rfl, rfl⟩ := hrel
    go_wp2_with fail
    refine H.out.mono ?_
    rintro e w1 ⟨rfl, hP⟩
    have HP := Lib.hid hP
    clear hP
    go_wp2_with fail
    go_ret2
    exact ⟨rfl, HP.out⟩
end Go.Proofs.YtakkdpbpoghfgaaGreatDoor
