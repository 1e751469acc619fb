/-
  The walks of the eight options that impl.options makes of options that are all zero, and of what each does to car.Options. Conditions: as each contract says.
-/
import Derived.Test.YtakkdpbpoghfgaaGreatDoorProg
import Derived.Test.YtakkdpbpoghfgaaGreatDoorBase
import Derived.Deep.QuietTactic
import Derived.BigQuiet
import Derived.Deep.RegionWith
import Derived.Deep.RegionHeld3
namespace Go.Proofs.YtakkdpbpoghfgaaGreatDoor
open Go.RowKit

/-- The cells of the options that ApplyOptions begins with. -/
def opt0 : List Value := [.int .u64 0, .int .u64 0, .int .u64 0, .bool false, .int .u64 0, .bool false, .bool false, .bool false, .int .u64 9223372036854775807, .bool false, .bool false, .int .u64 33554432, .int .u64 8388608]

set_option maxRecDepth 100000 in
theorem opt_mk0 (w : World) :
    Calls Tryz.prog 19 #[.bool false] w fun e w' => e = .returned (.func (.func 34) #[] #[.pointer (some ⟨w.heap.size, 0, none⟩)]) ∧ w' = w.alloc (.cells #[.bool false] 4) := by
  go_enter Tryz.func19, Tryz.ntmps19
  go_wp2_with fail
  go_ret
  exact ⟨rfl, rfl⟩

set_option maxRecDepth 100000 in
theorem opt_do0 (b d : Nat) (w : World) (hb : w.cell? ⟨b, 0, none⟩ = some (.bool false)) (hd : Blk w d 46 opt0.toArray) :
    Calls Tryz.prog 34 #[.pointer (some ⟨d, 0, none⟩), .pointer (some ⟨b, 0, none⟩)] w fun e w' => e = .returned (.tuple #[]) ∧ Blk w' d 46 opt0.toArray ∧ Kp [d] w w' := by
  have c := hd.cell 3
  have f := hd.frozen 3
  have hd2 := hd.set_ 3 (.bool false)
  have hc : w.cell? ⟨d, 3, none⟩ = some (.bool false) := c
  go_enter Tryz.func34, Tryz.ntmps34
  go_wp2_with fail
  go_end0
  exact ⟨rfl, hd2, (Kp.refl _ _).setCell (p := ⟨d, 3, none⟩) (.inl (by simp)) _⟩

set_option maxRecDepth 100000 in
theorem opt_mk1 (w : World) :
    Calls Tryz.prog 20 #[.bool false] w fun e w' => e = .returned (.func (.func 35) #[] #[.pointer (some ⟨w.heap.size, 0, none⟩)]) ∧ w' = w.alloc (.cells #[.bool false] 4) := by
  go_enter Tryz.func20, Tryz.ntmps20
  go_wp2_with fail
  go_ret
  exact ⟨rfl, rfl⟩

set_option maxRecDepth 100000 in
theorem opt_do1 (b d : Nat) (w : World) (hb : w.cell? ⟨b, 0, none⟩ = some (.bool false)) (hd : Blk w d 46 opt0.toArray) :
    Calls Tryz.prog 35 #[.pointer (some ⟨d, 0, none⟩), .pointer (some ⟨b, 0, none⟩)] w fun e w' => e = .returned (.tuple #[]) ∧ Blk w' d 46 opt0.toArray ∧ Kp [d] w w' := by
  have c := hd.cell 5
  have f := hd.frozen 5
  have hd2 := hd.set_ 5 (.bool false)
  have hc : w.cell? ⟨d, 5, none⟩ = some (.bool false) := c
  go_enter Tryz.func35, Tryz.ntmps35
  go_wp2_with fail
  go_end0
  exact ⟨rfl, hd2, (Kp.refl _ _).setCell (p := ⟨d, 5, none⟩) (.inl (by simp)) _⟩

set_option maxRecDepth 100000 in
theorem opt_mk2 (w : World) :
    Calls Tryz.prog 21 #[.bool false] w fun e w' => e = .returned (.func (.func 36) #[] #[.pointer (some ⟨w.heap.size, 0, none⟩)]) ∧ w' = w.alloc (.cells #[.bool false] 4) := by
  go_enter Tryz.func21, Tryz.ntmps21
  go_wp2_with fail
  go_ret
  exact ⟨rfl, rfl⟩

set_option maxRecDepth 100000 in
theorem opt_do2 (b d : Nat) (w : World) (hb : w.cell? ⟨b, 0, none⟩ = some (.bool false)) (hd : Blk w d 46 opt0.toArray) :
    Calls Tryz.prog 36 #[.pointer (some ⟨d, 0, none⟩), .pointer (some ⟨b, 0, none⟩)] w fun e w' => e = .returned (.tuple #[]) ∧ Blk w' d 46 opt0.toArray ∧ Kp [d] w w' := by
  have c := hd.cell 6
  have f := hd.frozen 6
  have hd2 := hd.set_ 6 (.bool false)
  have hc : w.cell? ⟨d, 6, none⟩ = some (.bool false) := c
  go_enter Tryz.func36, Tryz.ntmps36
  go_wp2_with fail
  go_end0
  exact ⟨rfl, hd2, (Kp.refl _ _).setCell (p := ⟨d, 6, none⟩) (.inl (by simp)) _⟩

set_option maxRecDepth 100000 in
theorem opt_mk3 (w : World) :
    Calls Tryz.prog 22 #[.bool false] w fun e w' => e = .returned (.func (.func 37) #[] #[.pointer (some ⟨w.heap.size, 0, none⟩)]) ∧ w' = w.alloc (.cells #[.bool false] 4) := by
  go_enter Tryz.func22, Tryz.ntmps22
  go_wp2_with fail
  go_ret
  exact ⟨rfl, rfl⟩

set_option maxRecDepth 100000 in
theorem opt_do3 (b d : Nat) (w : World) (hb : w.cell? ⟨b, 0, none⟩ = some (.bool false)) (hd : Blk w d 46 opt0.toArray) :
    Calls Tryz.prog 37 #[.pointer (some ⟨d, 0, none⟩), .pointer (some ⟨b, 0, none⟩)] w fun e w' => e = .returned (.tuple #[]) ∧ Blk w' d 46 opt0.toArray ∧ Kp [d] w w' := by
  have c := hd.cell 7
  have f := hd.frozen 7
  have hd2 := hd.set_ 7 (.bool false)
  have hc : w.cell? ⟨d, 7, none⟩ = some (.bool false) := c
  go_enter Tryz.func37, Tryz.ntmps37
  go_wp2_with fail
  go_end0
  exact ⟨rfl, hd2, (Kp.refl _ _).setCell (p := ⟨d, 7, none⟩) (.inl (by simp)) _⟩

set_option maxRecDepth 100000 in
theorem opt_mk4 (w : World) :
    Calls Tryz.prog 23 #[.bool false] w fun e w' => e = .returned (.func (.func 38) #[] #[.pointer (some ⟨w.heap.size, 0, none⟩)]) ∧ w' = w.alloc (.cells #[.bool false] 4) := by
  go_enter Tryz.func23, Tryz.ntmps23
  go_wp2_with fail
  go_ret
  exact ⟨rfl, rfl⟩

set_option maxRecDepth 100000 in
theorem opt_do4 (b d : Nat) (w : World) (hb : w.cell? ⟨b, 0, none⟩ = some (.bool false)) (hd : Blk w d 46 opt0.toArray) :
    Calls Tryz.prog 38 #[.pointer (some ⟨d, 0, none⟩), .pointer (some ⟨b, 0, none⟩)] w fun e w' => e = .returned (.tuple #[]) ∧ Blk w' d 46 opt0.toArray ∧ Kp [d] w w' := by
  have c := hd.cell 9
  have f := hd.frozen 9
  have hd2 := hd.set_ 9 (.bool false)
  have hc : w.cell? ⟨d, 9, none⟩ = some (.bool false) := c
  go_enter Tryz.func38, Tryz.ntmps38
  go_wp2_with fail
  go_end0
  exact ⟨rfl, hd2, (Kp.refl _ _).setCell (p := ⟨d, 9, none⟩) (.inl (by simp)) _⟩

set_option maxRecDepth 100000 in
theorem opt_mk5 (w : World) :
    Calls Tryz.prog 24 #[.bool false] w fun e w' => e = .returned (.func (.func 39) #[] #[.pointer (some ⟨w.heap.size, 0, none⟩)]) ∧ w' = w.alloc (.cells #[.bool false] 4) := by
  go_enter Tryz.func24, Tryz.ntmps24
  go_wp2_with fail
  go_ret
  exact ⟨rfl, rfl⟩

set_option maxRecDepth 100000 in
theorem opt_do5 (b d : Nat) (w : World) (hb : w.cell? ⟨b, 0, none⟩ = some (.bool false)) (hd : Blk w d 46 opt0.toArray) :
    Calls Tryz.prog 39 #[.pointer (some ⟨d, 0, none⟩), .pointer (some ⟨b, 0, none⟩)] w fun e w' => e = .returned (.tuple #[]) ∧ Blk w' d 46 opt0.toArray ∧ Kp [d] w w' := by
  have c := hd.cell 10
  have f := hd.frozen 10
  have hd2 := hd.set_ 10 (.bool false)
  have hc : w.cell? ⟨d, 10, none⟩ = some (.bool false) := c
  go_enter Tryz.func39, Tryz.ntmps39
  go_wp2_with fail
  go_end0
  exact ⟨rfl, hd2, (Kp.refl _ _).setCell (p := ⟨d, 10, none⟩) (.inl (by simp)) _⟩

set_option maxRecDepth 100000 in
theorem opt_mk6 (w : World) :
    Calls Tryz.prog 25 #[.int .u64 0] w fun e w' => e = .returned (.func (.func 40) #[] #[.pointer (some ⟨w.heap.size, 0, none⟩)]) ∧ w' = w.alloc (.cells #[.int .u64 0] 22) := by
  go_enter Tryz.func25, Tryz.ntmps25
  go_wp2_with fail
  go_ret
  exact ⟨rfl, rfl⟩

set_option maxRecDepth 100000 in
theorem opt_do6 (b d : Nat) (w : World) (hb : w.cell? ⟨b, 0, none⟩ = some (.int .u64 0)) (hd : Blk w d 46 opt0.toArray) :
    Calls Tryz.prog 40 #[.pointer (some ⟨d, 0, none⟩), .pointer (some ⟨b, 0, none⟩)] w fun e w' => e = .returned (.tuple #[]) ∧ Blk w' d 46 opt0.toArray ∧ Kp [d] w w' := by
  have c := hd.cell 0
  have f := hd.frozen 0
  have hd2 := hd.set_ 0 (.int .u64 0)
  have hc : w.cell? ⟨d, 0, none⟩ = some (.int .u64 0) := c
  go_enter Tryz.func40, Tryz.ntmps40
  go_wp2_with fail
  go_end0
  exact ⟨rfl, hd2, (Kp.refl _ _).setCell (p := ⟨d, 0, none⟩) (.inl (by simp)) _⟩

set_option maxRecDepth 100000 in
theorem opt_mk7 (w : World) :
    Calls Tryz.prog 26 #[.int .u64 0] w fun e w' => e = .returned (.func (.func 41) #[] #[.pointer (some ⟨w.heap.size, 0, none⟩)]) ∧ w' = w.alloc (.cells #[.int .u64 0] 22) := by
  go_enter Tryz.func26, Tryz.ntmps26
  go_wp2_with fail
  go_ret
  exact ⟨rfl, rfl⟩

set_option maxRecDepth 100000 in
theorem opt_do7 (b d : Nat) (w : World) (hb : w.cell? ⟨b, 0, none⟩ = some (.int .u64 0)) (hd : Blk w d 46 opt0.toArray) :
    Calls Tryz.prog 41 #[.pointer (some ⟨d, 0, none⟩), .pointer (some ⟨b, 0, none⟩)] w fun e w' => e = .returned (.tuple #[]) ∧ Blk w' d 46 opt0.toArray ∧ Kp [d] w w' := by
  have c := hd.cell 1
  have f := hd.frozen 1
  have hd2 := hd.set_ 1 (.int .u64 0)
  have hc : w.cell? ⟨d, 1, none⟩ = some (.int .u64 0) := c
  go_enter Tryz.func41, Tryz.ntmps41
  go_wp2_with fail
  go_end0
  exact ⟨rfl, hd2, (Kp.refl _ _).setCell (p := ⟨d, 1, none⟩) (.inl (by simp)) _⟩

end Go.Proofs.YtakkdpbpoghfgaaGreatDoor
