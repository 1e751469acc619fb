/-
  io.SectionReader of 40 bytes from number 11 on, over a bytes.Reader: its Read, and io.ReadFull over it. Conditions: as each contract says.
-/
import Derived.Test.YtakkdpbpoghfgaaGreatDoorRa
import Derived.Test.YtakkdpbpoghfgaaGreatDoorRk
namespace Go.Proofs.YtakkdpbpoghfgaaGreatDoor
open Go.RowKit

/-- The cells of that reader, at number off. -/
def secC (r : Nat) (off : Int) : Array Value := #[.iface 59 (.pointer (some ⟨r, 0, none⟩)), .int .i64 11, .int .i64 off, .int .i64 51, .int .i64 40]

set_option maxRecDepth 100000 in
set_option maxHeartbeats 2000000 in
theorem newSec_any (r : Nat) (w : World) :
    Calls Tryz.prog 32 #[.iface 59 (.pointer (some ⟨r, 0, none⟩)), .int .i64 11, .int .i64 40] w fun e w' =>
      e = .returned (.pointer (some ⟨w.heap.size, 0, none⟩)) ∧ Blk w' w.heap.size 103 (secC r 11) ∧ Below w.heap.size w w' := by
  go_enter Tryz.func32, Tryz.ntmps32
  go_wp2_with fail
  go_ret
  exact ⟨rfl, Blk.new _ _ _, Old.alloc (Below.refl _ _) _⟩

set_option maxRecDepth 100000 in
set_option maxHeartbeats 2000000 in
theorem secRead_gen (p r : Nat) (off k : Int) (m : Nat) (sa : Option Addr) (cd : Nat) (er : Value) (w : World) (Post : World → Prop) (h : Blk w p 103 (secC r off)) (h0 : 0 ≤ off) (h1 : 0 ≤ k) (hm : off + m ≤ 51) (hm0 : 0 < m) (hk : k ≤ m)
    (HRA : ∀ j, Calls Tryz.prog 117 #[.pointer (some ⟨r, 0, none⟩), .slice sa m cd, .int .i64 off] (w.drewN j) fun e w' => e = .returned (.tuple #[.int .i64 k, er]) ∧ Blk w' p 103 (secC r off) ∧ Post w') :
    Calls Tryz.prog 126 #[.pointer (some ⟨p, 0, none⟩), .slice sa m cd] w fun e w' => e = .returned (.tuple #[.int .i64 k, er]) ∧
      Blk w' p 103 (secC r (off + k)) ∧ ∃ w1, Post w1 ∧ w' = w1.setCell ⟨p, 2, none⟩ (.int .i64 (off + k)) := by
  have hmr : ∀ W, (method 334 59 (.pointer (some ⟨r, 0, none⟩)) "ReadAt").run Tryz.prog W = .ok (117, .pointer (some ⟨r, 0, none⟩)) W := fun _ => by kernel_rfl
  have hna : ∀ W, (nilAhead 334 59 (.pointer (some ⟨r, 0, none⟩)) "ReadAt").run Tryz.prog W = .ok (some false) W := fun _ => by kernel_rfl
  have q0 : w.cell? ⟨p, 0, none⟩ = some (.iface 59 (.pointer (some ⟨r, 0, none⟩))) := h.cell 0
  have q2 : w.cell? ⟨p, 2, none⟩ = some (.int .i64 off) := h.cell 2
  have q3 : w.cell? ⟨p, 3, none⟩ = some (.int .i64 51) := h.cell 3
  have hw : IntKind.i64.wrap (off + k) = off + k := by rw [IntKind.wrap_i64]; omega
  have hw2 : IntKind.i64.wrap (51 - off) = 51 - off := by rw [IntKind.wrap_i64]; omega
  have hd1 : decide (51 ≤ off) = false := by simp; omega
  have hd2 : decide (51 - off < (m : Int)) = false := by simp; omega
  have HR := Lib.hid HRA
  clear HRA h hm hk h1
  go_enter Tryz.func126, Tryz.ntmps126
  go_wp2_with fail
  go_quiet (fail)
  go_wp2_with fail
  go_quiet (fail)
  go_wp2_with fail
  go_region_with (go_at_call 117; refine (HR.out _).mono ?_; rintro _ w1 ⟨rfl, hB1, hP1⟩; have p2 : w1.cell? ⟨p, 2, none⟩ = some (.int .i64 off) := hB1.cell 2; have f2 := hB1.frozen 2; have HB := Lib.hid (And.intro hB1 hP1); clear hB1 hP1)
  all_goals go_wp2_with fail
  all_goals go_ret2
  all_goals exact ⟨rfl, HB.out.1.set_ 2 _, w1, HB.out.2, rfl⟩
end Go.Proofs.YtakkdpbpoghfgaaGreatDoor
