/-
  The walks of the eight options that impl.options makes of options that are all zero, and of what each does to car.Options. Conditions: as each contract says.
  The walks of impl.options at options that are all zero, and of car.ApplyOptions over what that gives. Conditions: as each contract says.
-/
import Derived.Test.YtlafdmmjbkdkaaaGreatDoorJBase
import Derived.Test.YtlafdmmjbkdkaaaGreatDoorProg
import Derived.Deep.QuietTactic
import Derived.BigQuiet
import Derived.Deep.RegionWith
import Derived.Deep.RegionHeld3
import Derived.Test.YtlafdmmjbkdkaaaGreatDoorJRf
namespace Go.Proofs.YtlafdmmjbkdkaaaGreatDoor
open Go.RowKit

/-- The cells of the options that ApplyOptions begins with. -/
def opt0 : List Value := [.int .u64 0, .int .u64 0, .int .u64 0, .bool false, .int .u64 0, .bool false, .bool false, .bool false, .int .u64 9223372036854775807, .bool false, .bool false, .int .u64 33554432, .int .u64 8388608]

set_option maxRecDepth 100000 in
theorem opt_mk0 (w : World) :
    Calls Tryz.prog 32 #[.bool false] w fun e w' => e = .returned (.func (.func 55) #[] #[.pointer (some ⟨w.heap.size, 0, none⟩)]) ∧ w' = w.alloc (.cells #[.bool false] 4) := by
  go_enter Tryz.func32, Tryz.ntmps32
  go_wp2_with fail
  go_ret
  exact ⟨rfl, rfl⟩

set_option maxRecDepth 100000 in
theorem opt_do0 (b d : Nat) (w : World) (hb : w.cell? ⟨b, 0, none⟩ = some (.bool false)) (hd : Blk w d 102 opt0.toArray) :
    Calls Tryz.prog 55 #[.pointer (some ⟨d, 0, none⟩), .pointer (some ⟨b, 0, none⟩)] w fun e w' => e = .returned (.tuple #[]) ∧ Blk w' d 102 opt0.toArray ∧ Kp [d] w w' := by
  have c := hd.cell 3
  have f := hd.frozen 3
  have hd2 := hd.set_ 3 (.bool false)
  have hc : w.cell? ⟨d, 3, none⟩ = some (.bool false) := c
  go_enter Tryz.func55, Tryz.ntmps55
  go_wp2_with fail
  go_end0
  exact ⟨rfl, hd2, (Kp.refl _ _).setCell (p := ⟨d, 3, none⟩) (.inl (by simp)) _⟩

set_option maxRecDepth 100000 in
theorem opt_mk1 (w : World) :
    Calls Tryz.prog 33 #[.bool false] w fun e w' => e = .returned (.func (.func 56) #[] #[.pointer (some ⟨w.heap.size, 0, none⟩)]) ∧ w' = w.alloc (.cells #[.bool false] 4) := by
  go_enter Tryz.func33, Tryz.ntmps33
  go_wp2_with fail
  go_ret
  exact ⟨rfl, rfl⟩

set_option maxRecDepth 100000 in
theorem opt_do1 (b d : Nat) (w : World) (hb : w.cell? ⟨b, 0, none⟩ = some (.bool false)) (hd : Blk w d 102 opt0.toArray) :
    Calls Tryz.prog 56 #[.pointer (some ⟨d, 0, none⟩), .pointer (some ⟨b, 0, none⟩)] w fun e w' => e = .returned (.tuple #[]) ∧ Blk w' d 102 opt0.toArray ∧ Kp [d] w w' := by
  have c := hd.cell 5
  have f := hd.frozen 5
  have hd2 := hd.set_ 5 (.bool false)
  have hc : w.cell? ⟨d, 5, none⟩ = some (.bool false) := c
  go_enter Tryz.func56, Tryz.ntmps56
  go_wp2_with fail
  go_end0
  exact ⟨rfl, hd2, (Kp.refl _ _).setCell (p := ⟨d, 5, none⟩) (.inl (by simp)) _⟩

set_option maxRecDepth 100000 in
theorem opt_mk2 (w : World) :
    Calls Tryz.prog 34 #[.bool false] w fun e w' => e = .returned (.func (.func 57) #[] #[.pointer (some ⟨w.heap.size, 0, none⟩)]) ∧ w' = w.alloc (.cells #[.bool false] 4) := by
  go_enter Tryz.func34, Tryz.ntmps34
  go_wp2_with fail
  go_ret
  exact ⟨rfl, rfl⟩

set_option maxRecDepth 100000 in
theorem opt_do2 (b d : Nat) (w : World) (hb : w.cell? ⟨b, 0, none⟩ = some (.bool false)) (hd : Blk w d 102 opt0.toArray) :
    Calls Tryz.prog 57 #[.pointer (some ⟨d, 0, none⟩), .pointer (some ⟨b, 0, none⟩)] w fun e w' => e = .returned (.tuple #[]) ∧ Blk w' d 102 opt0.toArray ∧ Kp [d] w w' := by
  have c := hd.cell 6
  have f := hd.frozen 6
  have hd2 := hd.set_ 6 (.bool false)
  have hc : w.cell? ⟨d, 6, none⟩ = some (.bool false) := c
  go_enter Tryz.func57, Tryz.ntmps57
  go_wp2_with fail
  go_end0
  exact ⟨rfl, hd2, (Kp.refl _ _).setCell (p := ⟨d, 6, none⟩) (.inl (by simp)) _⟩

set_option maxRecDepth 100000 in
theorem opt_mk3 (w : World) :
    Calls Tryz.prog 35 #[.bool false] w fun e w' => e = .returned (.func (.func 58) #[] #[.pointer (some ⟨w.heap.size, 0, none⟩)]) ∧ w' = w.alloc (.cells #[.bool false] 4) := by
  go_enter Tryz.func35, Tryz.ntmps35
  go_wp2_with fail
  go_ret
  exact ⟨rfl, rfl⟩

set_option maxRecDepth 100000 in
theorem opt_do3 (b d : Nat) (w : World) (hb : w.cell? ⟨b, 0, none⟩ = some (.bool false)) (hd : Blk w d 102 opt0.toArray) :
    Calls Tryz.prog 58 #[.pointer (some ⟨d, 0, none⟩), .pointer (some ⟨b, 0, none⟩)] w fun e w' => e = .returned (.tuple #[]) ∧ Blk w' d 102 opt0.toArray ∧ Kp [d] w w' := by
  have c := hd.cell 7
  have f := hd.frozen 7
  have hd2 := hd.set_ 7 (.bool false)
  have hc : w.cell? ⟨d, 7, none⟩ = some (.bool false) := c
  go_enter Tryz.func58, Tryz.ntmps58
  go_wp2_with fail
  go_end0
  exact ⟨rfl, hd2, (Kp.refl _ _).setCell (p := ⟨d, 7, none⟩) (.inl (by simp)) _⟩

set_option maxRecDepth 100000 in
theorem opt_mk4 (w : World) :
    Calls Tryz.prog 36 #[.bool false] w fun e w' => e = .returned (.func (.func 59) #[] #[.pointer (some ⟨w.heap.size, 0, none⟩)]) ∧ w' = w.alloc (.cells #[.bool false] 4) := by
  go_enter Tryz.func36, Tryz.ntmps36
  go_wp2_with fail
  go_ret
  exact ⟨rfl, rfl⟩

set_option maxRecDepth 100000 in
theorem opt_do4 (b d : Nat) (w : World) (hb : w.cell? ⟨b, 0, none⟩ = some (.bool false)) (hd : Blk w d 102 opt0.toArray) :
    Calls Tryz.prog 59 #[.pointer (some ⟨d, 0, none⟩), .pointer (some ⟨b, 0, none⟩)] w fun e w' => e = .returned (.tuple #[]) ∧ Blk w' d 102 opt0.toArray ∧ Kp [d] w w' := by
  have c := hd.cell 9
  have f := hd.frozen 9
  have hd2 := hd.set_ 9 (.bool false)
  have hc : w.cell? ⟨d, 9, none⟩ = some (.bool false) := c
  go_enter Tryz.func59, Tryz.ntmps59
  go_wp2_with fail
  go_end0
  exact ⟨rfl, hd2, (Kp.refl _ _).setCell (p := ⟨d, 9, none⟩) (.inl (by simp)) _⟩

set_option maxRecDepth 100000 in
theorem opt_mk5 (w : World) :
    Calls Tryz.prog 37 #[.bool false] w fun e w' => e = .returned (.func (.func 60) #[] #[.pointer (some ⟨w.heap.size, 0, none⟩)]) ∧ w' = w.alloc (.cells #[.bool false] 4) := by
  go_enter Tryz.func37, Tryz.ntmps37
  go_wp2_with fail
  go_ret
  exact ⟨rfl, rfl⟩

set_option maxRecDepth 100000 in
theorem opt_do5 (b d : Nat) (w : World) (hb : w.cell? ⟨b, 0, none⟩ = some (.bool false)) (hd : Blk w d 102 opt0.toArray) :
    Calls Tryz.prog 60 #[.pointer (some ⟨d, 0, none⟩), .pointer (some ⟨b, 0, none⟩)] w fun e w' => e = .returned (.tuple #[]) ∧ Blk w' d 102 opt0.toArray ∧ Kp [d] w w' := by
  have c := hd.cell 10
  have f := hd.frozen 10
  have hd2 := hd.set_ 10 (.bool false)
  have hc : w.cell? ⟨d, 10, none⟩ = some (.bool false) := c
  go_enter Tryz.func60, Tryz.ntmps60
  go_wp2_with fail
  go_end0
  exact ⟨rfl, hd2, (Kp.refl _ _).setCell (p := ⟨d, 10, none⟩) (.inl (by simp)) _⟩

set_option maxRecDepth 100000 in
theorem opt_mk6 (w : World) :
    Calls Tryz.prog 38 #[.int .u64 0] w fun e w' => e = .returned (.func (.func 61) #[] #[.pointer (some ⟨w.heap.size, 0, none⟩)]) ∧ w' = w.alloc (.cells #[.int .u64 0] 26) := by
  go_enter Tryz.func38, Tryz.ntmps38
  go_wp2_with fail
  go_ret
  exact ⟨rfl, rfl⟩

set_option maxRecDepth 100000 in
theorem opt_do6 (b d : Nat) (w : World) (hb : w.cell? ⟨b, 0, none⟩ = some (.int .u64 0)) (hd : Blk w d 102 opt0.toArray) :
    Calls Tryz.prog 61 #[.pointer (some ⟨d, 0, none⟩), .pointer (some ⟨b, 0, none⟩)] w fun e w' => e = .returned (.tuple #[]) ∧ Blk w' d 102 opt0.toArray ∧ Kp [d] w w' := by
  have c := hd.cell 0
  have f := hd.frozen 0
  have hd2 := hd.set_ 0 (.int .u64 0)
  have hc : w.cell? ⟨d, 0, none⟩ = some (.int .u64 0) := c
  go_enter Tryz.func61, Tryz.ntmps61
  go_wp2_with fail
  go_end0
  exact ⟨rfl, hd2, (Kp.refl _ _).setCell (p := ⟨d, 0, none⟩) (.inl (by simp)) _⟩

set_option maxRecDepth 100000 in
theorem opt_mk7 (w : World) :
    Calls Tryz.prog 39 #[.int .u64 0] w fun e w' => e = .returned (.func (.func 62) #[] #[.pointer (some ⟨w.heap.size, 0, none⟩)]) ∧ w' = w.alloc (.cells #[.int .u64 0] 26) := by
  go_enter Tryz.func39, Tryz.ntmps39
  go_wp2_with fail
  go_ret
  exact ⟨rfl, rfl⟩

set_option maxRecDepth 100000 in
theorem opt_do7 (b d : Nat) (w : World) (hb : w.cell? ⟨b, 0, none⟩ = some (.int .u64 0)) (hd : Blk w d 102 opt0.toArray) :
    Calls Tryz.prog 62 #[.pointer (some ⟨d, 0, none⟩), .pointer (some ⟨b, 0, none⟩)] w fun e w' => e = .returned (.tuple #[]) ∧ Blk w' d 102 opt0.toArray ∧ Kp [d] w w' := by
  have c := hd.cell 1
  have f := hd.frozen 1
  have hd2 := hd.set_ 1 (.int .u64 0)
  have hc : w.cell? ⟨d, 1, none⟩ = some (.int .u64 0) := c
  go_enter Tryz.func62, Tryz.ntmps62
  go_wp2_with fail
  go_end0
  exact ⟨rfl, hd2, (Kp.refl _ _).setCell (p := ⟨d, 1, none⟩) (.inl (by simp)) _⟩

end Go.Proofs.YtlafdmmjbkdkaaaGreatDoor

namespace Go.Proofs.YtlafdmmjbkdkaaaGreatDoor
open Go.RowKit

/-- The eight function values, each with its own cell. -/
def optF (b0 b1 b2 b3 b4 b5 b6 b7 : Nat) : List Value := [.func (.func 55) #[] #[.pointer (some ⟨b0, 0, none⟩)], .func (.func 56) #[] #[.pointer (some ⟨b1, 0, none⟩)], .func (.func 57) #[] #[.pointer (some ⟨b2, 0, none⟩)], .func (.func 58) #[] #[.pointer (some ⟨b3, 0, none⟩)], .func (.func 59) #[] #[.pointer (some ⟨b4, 0, none⟩)], .func (.func 60) #[] #[.pointer (some ⟨b5, 0, none⟩)], .func (.func 61) #[] #[.pointer (some ⟨b6, 0, none⟩)], .func (.func 62) #[] #[.pointer (some ⟨b7, 0, none⟩)]]
/-- In block g lie the eight options of all-zero options. -/
structure Opts (w : World) (g b0 b1 b2 b3 b4 b5 b6 b7 : Nat) : Prop where
  row : Blk w g 87 (optF b0 b1 b2 b3 b4 b5 b6 b7).toArray
  c0 : w.cell? ⟨b0, 0, none⟩ = some (.bool false)
  c1 : w.cell? ⟨b1, 0, none⟩ = some (.bool false)
  c2 : w.cell? ⟨b2, 0, none⟩ = some (.bool false)
  c3 : w.cell? ⟨b3, 0, none⟩ = some (.bool false)
  c4 : w.cell? ⟨b4, 0, none⟩ = some (.bool false)
  c5 : w.cell? ⟨b5, 0, none⟩ = some (.bool false)
  c6 : w.cell? ⟨b6, 0, none⟩ = some (.int .u64 0)
  c7 : w.cell? ⟨b7, 0, none⟩ = some (.int .u64 0)
theorem Opts.old {w w' : World} {g b0 b1 b2 b3 b4 b5 b6 b7 : Nat} (h : Opts w g b0 b1 b2 b3 b4 b5 b6 b7) (hb : Below w.heap.size w w') : Opts w' g b0 b1 b2 b3 b4 b5 b6 b7 :=
  ⟨h.row.old hb, (hb.cell (World.block_lt_of_cell? w _ h.c0)).trans h.c0, (hb.cell (World.block_lt_of_cell? w _ h.c1)).trans h.c1, (hb.cell (World.block_lt_of_cell? w _ h.c2)).trans h.c2, (hb.cell (World.block_lt_of_cell? w _ h.c3)).trans h.c3, (hb.cell (World.block_lt_of_cell? w _ h.c4)).trans h.c4, (hb.cell (World.block_lt_of_cell? w _ h.c5)).trans h.c5, (hb.cell (World.block_lt_of_cell? w _ h.c6)).trans h.c6, (hb.cell (World.block_lt_of_cell? w _ h.c7)).trans h.c7⟩
theorem Opts.kp {w w' : World} {L : List Nat} {g b0 b1 b2 b3 b4 b5 b6 b7 : Nat} (h : Opts w g b0 b1 b2 b3 b4 b5 b6 b7) (hb : Kp L w w') (hL : ∀ i ∈ L, w.heap.size ≤ i) : Opts w' g b0 b1 b2 b3 b4 b5 b6 b7 :=
  h.old (hb.weaken (l' := []) (fun i hi => .inr (hL i hi))).below

theorem opt_new0 (w : World) :
    Calls Tryz.prog 32 #[.bool false] w fun e w' => ∃ b, e = .returned (.func (.func 55) #[] #[.pointer (some ⟨b, 0, none⟩)]) ∧ w'.cell? ⟨b, 0, none⟩ = some (.bool false) ∧ Below w.heap.size w w' := by
  refine (opt_mk0 w).mono ?_
  rintro e w' ⟨rfl, rfl⟩
  exact ⟨_, rfl, (Blk.new w _ _).cell 0, Old.alloc (Below.refl _ _) _⟩

theorem opt_new1 (w : World) :
    Calls Tryz.prog 33 #[.bool false] w fun e w' => ∃ b, e = .returned (.func (.func 56) #[] #[.pointer (some ⟨b, 0, none⟩)]) ∧ w'.cell? ⟨b, 0, none⟩ = some (.bool false) ∧ Below w.heap.size w w' := by
  refine (opt_mk1 w).mono ?_
  rintro e w' ⟨rfl, rfl⟩
  exact ⟨_, rfl, (Blk.new w _ _).cell 0, Old.alloc (Below.refl _ _) _⟩

theorem opt_new2 (w : World) :
    Calls Tryz.prog 34 #[.bool false] w fun e w' => ∃ b, e = .returned (.func (.func 57) #[] #[.pointer (some ⟨b, 0, none⟩)]) ∧ w'.cell? ⟨b, 0, none⟩ = some (.bool false) ∧ Below w.heap.size w w' := by
  refine (opt_mk2 w).mono ?_
  rintro e w' ⟨rfl, rfl⟩
  exact ⟨_, rfl, (Blk.new w _ _).cell 0, Old.alloc (Below.refl _ _) _⟩

theorem opt_new3 (w : World) :
    Calls Tryz.prog 35 #[.bool false] w fun e w' => ∃ b, e = .returned (.func (.func 58) #[] #[.pointer (some ⟨b, 0, none⟩)]) ∧ w'.cell? ⟨b, 0, none⟩ = some (.bool false) ∧ Below w.heap.size w w' := by
  refine (opt_mk3 w).mono ?_
  rintro e w' ⟨rfl, rfl⟩
  exact ⟨_, rfl, (Blk.new w _ _).cell 0, Old.alloc (Below.refl _ _) _⟩

theorem opt_new4 (w : World) :
    Calls Tryz.prog 36 #[.bool false] w fun e w' => ∃ b, e = .returned (.func (.func 59) #[] #[.pointer (some ⟨b, 0, none⟩)]) ∧ w'.cell? ⟨b, 0, none⟩ = some (.bool false) ∧ Below w.heap.size w w' := by
  refine (opt_mk4 w).mono ?_
  rintro e w' ⟨rfl, rfl⟩
  exact ⟨_, rfl, (Blk.new w _ _).cell 0, Old.alloc (Below.refl _ _) _⟩

theorem opt_new5 (w : World) :
    Calls Tryz.prog 37 #[.bool false] w fun e w' => ∃ b, e = .returned (.func (.func 60) #[] #[.pointer (some ⟨b, 0, none⟩)]) ∧ w'.cell? ⟨b, 0, none⟩ = some (.bool false) ∧ Below w.heap.size w w' := by
  refine (opt_mk5 w).mono ?_
  rintro e w' ⟨rfl, rfl⟩
  exact ⟨_, rfl, (Blk.new w _ _).cell 0, Old.alloc (Below.refl _ _) _⟩

theorem opt_new6 (w : World) :
    Calls Tryz.prog 38 #[.int .u64 0] w fun e w' => ∃ b, e = .returned (.func (.func 61) #[] #[.pointer (some ⟨b, 0, none⟩)]) ∧ w'.cell? ⟨b, 0, none⟩ = some (.int .u64 0) ∧ Below w.heap.size w w' := by
  refine (opt_mk6 w).mono ?_
  rintro e w' ⟨rfl, rfl⟩
  exact ⟨_, rfl, (Blk.new w _ _).cell 0, Old.alloc (Below.refl _ _) _⟩

theorem opt_new7 (w : World) :
    Calls Tryz.prog 39 #[.int .u64 0] w fun e w' => ∃ b, e = .returned (.func (.func 62) #[] #[.pointer (some ⟨b, 0, none⟩)]) ∧ w'.cell? ⟨b, 0, none⟩ = some (.int .u64 0) ∧ Below w.heap.size w w' := by
  refine (opt_mk7 w).mono ?_
  rintro e w' ⟨rfl, rfl⟩
  exact ⟨_, rfl, (Blk.new w _ _).cell 0, Old.alloc (Below.refl _ _) _⟩

set_option maxRecDepth 100000 in
set_option maxHeartbeats 4000000 in
theorem options_any (w : World) :
    Calls Tryz.prog 16 #[.agg #[.bool false, .bool false, .bool false, .bool false, .bool false, .bool false, .int .u64 0, .int .u64 0, .int .u64 0, .int .u64 0, .int .u64 0, .int .u64 0]] w fun e w' => ∃ g b0 b1 b2 b3 b4 b5 b6 b7, e = .returned (.slice (some ⟨g, 0, none⟩) 8 8) ∧ Opts w' g b0 b1 b2 b3 b4 b5 b6 b7 ∧ Below w.heap.size w w' := by
  obtain ⟨W, hW⟩ : ∃ W, w.alloc (.cells #[.bool false, .bool false, .bool false, .bool false, .bool false, .bool false, .int .u64 0, .int .u64 0, .int .u64 0, .int .u64 0, .int .u64 0, .int .u64 0] 33) = W := ⟨_, rfl⟩
  obtain ⟨d, hd⟩ : ∃ d, w.heap.size = d := ⟨_, rfl⟩
  have b0W : Below w.heap.size w W := by rw [← hW]; exact Old.alloc (Below.refl _ _) _
  have D0 : Blk W d 33 #[.bool false, .bool false, .bool false, .bool false, .bool false, .bool false, .int .u64 0, .int .u64 0, .int .u64 0, .int .u64 0, .int .u64 0, .int .u64 0] := by rw [← hW, ← hd]; exact Blk.new _ _ _
  have q0 : W.cell? ⟨d, 0, none⟩ = some (.bool false) := D0.cell 0
  have q1 : W.cell? ⟨d, 1, none⟩ = some (.bool false) := D0.cell 1
  have q2 : W.cell? ⟨d, 2, none⟩ = some (.bool false) := D0.cell 2
  have q3 : W.cell? ⟨d, 3, none⟩ = some (.bool false) := D0.cell 3
  have q4 : W.cell? ⟨d, 4, none⟩ = some (.bool false) := D0.cell 4
  have q5 : W.cell? ⟨d, 5, none⟩ = some (.bool false) := D0.cell 5
  have q6 : W.cell? ⟨d, 6, none⟩ = some (.int .u64 0) := D0.cell 6
  have q7 : W.cell? ⟨d, 7, none⟩ = some (.int .u64 0) := D0.cell 7
  have q8 : W.cell? ⟨d, 8, none⟩ = some (.int .u64 0) := D0.cell 8
  have q9 : W.cell? ⟨d, 9, none⟩ = some (.int .u64 0) := D0.cell 9
  have q10 : W.cell? ⟨d, 10, none⟩ = some (.int .u64 0) := D0.cell 10
  have q11 : W.cell? ⟨d, 11, none⟩ = some (.int .u64 0) := D0.cell 11
  have hlt := D0.lt
  have HB := Lib.hid b0W
  clear b0W
  go_enter Tryz.func16, Tryz.ntmps16
  go_wp2_with fail
  clear hW hd
  go_region_held3 (fun w' => Below W.heap.size W w' ∧ ∀ b o, b < W.heap.size → w'.cell? ⟨b, o, none⟩ = W.cell? ⟨b, o, none⟩) (first | exact stay_drew W | exact stay_below ‹_› ‹_› | exact stay_alloc ‹_› _ | go_keep)
    (first
      | (go_at_call 32; refine (opt_new0 _).mono ?_; rintro _ v0 ⟨b0, rfl, C0, B0⟩)
      | (go_at_call 33; refine (opt_new1 _).mono ?_; rintro _ v1 ⟨b1, rfl, C1, B1⟩)
      | (go_at_call 34; refine (opt_new2 _).mono ?_; rintro _ v2 ⟨b2, rfl, C2, B2⟩)
      | (go_at_call 35; refine (opt_new3 _).mono ?_; rintro _ v3 ⟨b3, rfl, C3, B3⟩)
      | (go_at_call 36; refine (opt_new4 _).mono ?_; rintro _ v4 ⟨b4, rfl, C4, B4⟩)
      | (go_at_call 37; refine (opt_new5 _).mono ?_; rintro _ v5 ⟨b5, rfl, C5, B5⟩)
      | (go_at_call 38; refine (opt_new6 _).mono ?_; rintro _ v6 ⟨b6, rfl, C6, B6⟩)
      | (go_at_call 39; refine (opt_new7 _).mono ?_; rintro _ v7 ⟨b7, rfl, C7, B7⟩))
  have e0 : Below W.heap.size W v0 := ((Below.refl _ _).drew).trans B0
  have e1 := Old.trans e0 B1
  have k7 := Old.trans (Old.trans (Old.trans (Old.trans (Old.trans (Old.trans e1 B2) B3) B4) B5) B6) B7
  have hlt7 : ∀ (a b : World), Below a.heap.size a b → ∀ (x : Nat) (v : Value), a.cell? ⟨x, 0, none⟩ = some v → b.cell? ⟨x, 0, none⟩ = some v := fun a b h x v hx => (h.cell (World.block_lt_of_cell? a _ hx)).trans hx
  have O : Opts (v7.alloc (.cells (optF b0 b1 b2 b3 b4 b5 b6 b7).toArray 87)) v7.heap.size b0 b1 b2 b3 b4 b5 b6 b7 := by
    have a7 := Old.alloc (Below.refl v7.heap.size v7) (.cells (optF b0 b1 b2 b3 b4 b5 b6 b7).toArray 87)
    have a6 := Old.trans B7 a7
    have a5 := Old.trans B6 a6
    have a4 := Old.trans B5 a5
    have a3 := Old.trans B4 a4
    have a2 := Old.trans B3 a3
    have a1 := Old.trans B2 a2
    have a0 := Old.trans B1 a1
    exact ⟨Blk.new _ _ _, hlt7 _ _ a0 _ _ C0, hlt7 _ _ a1 _ _ C1, hlt7 _ _ a2 _ _ C2, hlt7 _ _ a3 _ _ C3, hlt7 _ _ a4 _ _ C4, hlt7 _ _ a5 _ _ C5, hlt7 _ _ a6 _ _ C6, hlt7 _ _ a7 _ _ C7⟩
  have kX : Below w.heap.size w (v7.alloc (.cells (optF b0 b1 b2 b3 b4 b5 b6 b7).toArray 87)) := Old.alloc (Old.trans HB.out k7) _
  have DX : Blk (v7.alloc (.cells (optF b0 b1 b2 b3 b4 b5 b6 b7).toArray 87)) d 33 #[.bool false, .bool false, .bool false, .bool false, .bool false, .bool false, .int .u64 0, .int .u64 0, .int .u64 0, .int .u64 0, .int .u64 0, .int .u64 0] := (D0.old k7).alloc _
  obtain ⟨G, hG⟩ : ∃ G, v7.heap.size = G := ⟨_, rfl⟩
  rw [hG] at O ⊢
  unfold optF at O kX DX
  generalize v7.alloc _ = X at *
  clear C0 C1 C2 C3 C4 C5 C6 C7 B0 B1 B2 B3 B4 B5 B6 B7 k7 e0 e1 hlt7 q0 q1 q2 q3 q4 q5 q6 q7 D0 hG DX
  go_wp2_with fail
  go_ret
  exact ⟨G, b0, b1, b2, b3, b4, b5, b6, b7, rfl, O, kX⟩

/-- The cells of the options that ApplyOptions gives. -/
def optR : List Value := [.int .u64 0, .int .u64 0, .int .u64 1025, .bool false, .int .u64 2048, .bool false, .bool false, .bool false, .int .u64 9223372036854775807, .bool false, .bool false, .int .u64 33554432, .int .u64 8388608]

set_option maxRecDepth 100000 in
set_option maxHeartbeats 4000000 in
theorem applyOptions_any (g b0 b1 b2 b3 b4 b5 b6 b7 : Nat) (w : World) (h : Opts w g b0 b1 b2 b3 b4 b5 b6 b7) :
    Calls Tryz.prog 48 #[.slice (some ⟨g, 0, none⟩) 8 8] w fun e w' => e = .returned (.agg optR.toArray) ∧ Below w.heap.size w w' := by
  obtain ⟨d, hd⟩ : ∃ d, w.heap.size = d := ⟨_, rfl⟩
  obtain ⟨W, hW⟩ : ∃ W, (w.alloc (.cells #[.int .u64 0, .int .u64 0, .int .u64 0, .bool false, .int .u64 0, .bool false, .bool false, .bool false, .int .u64 0, .bool false, .bool false, .int .u64 0, .int .u64 0] 102)).alloc (.cells opt0.toArray 102) = W := ⟨_, rfl⟩
  have bW : Below w.heap.size w W := by rw [← hW]; exact Old.alloc (Old.alloc (Below.refl _ _) _) _
  have D1 : Blk W (d + 1) 102 opt0.toArray := by
    rw [← hW, ← hd]
    have := Blk.new (w.alloc (.cells #[.int .u64 0, .int .u64 0, .int .u64 0, .bool false, .int .u64 0, .bool false, .bool false, .bool false, .int .u64 0, .bool false, .bool false, .int .u64 0, .int .u64 0] 102)) 102 opt0.toArray
    simpa using this
  have D0 : Blk W d 102 #[.int .u64 0, .int .u64 0, .int .u64 0, .bool false, .int .u64 0, .bool false, .bool false, .bool false, .int .u64 0, .bool false, .bool false, .int .u64 0, .int .u64 0] := by
    rw [← hW, ← hd]
    exact (Blk.new w _ _).alloc _
  have HO := Lib.hid (h.old bW)
  have hgd : g < d := by rw [← hd]; exact h.row.lt
  have hbd : b0 < d ∧ b1 < d ∧ b2 < d ∧ b3 < d ∧ b4 < d ∧ b5 < d ∧ b6 < d ∧ b7 < d := by
    rw [← hd]
    exact ⟨World.block_lt_of_cell? w _ h.c0, World.block_lt_of_cell? w _ h.c1, World.block_lt_of_cell? w _ h.c2, World.block_lt_of_cell? w _ h.c3, World.block_lt_of_cell? w _ h.c4, World.block_lt_of_cell? w _ h.c5, World.block_lt_of_cell? w _ h.c6, World.block_lt_of_cell? w _ h.c7⟩
  have HB := Lib.hid hbd
  have HK := Lib.hid bW
  have HD := Lib.hid (And.intro D1 D0)
  have HDD := Lib.hid (Nat.le_of_eq hd)
  clear h hbd bW D1 D0
  unfold opt0 at hW
  go_enter Tryz.func48, Tryz.ntmps48
  go_wp2_with fail
  clear hW hd
  go_loopw [9] (fun i wr => ∃ k : Nat, k ≤ 8 ∧ i = .int .i64 k ∧ Blk wr (d + 1) 102 opt0.toArray ∧ Kp [d + 1] W wr) (fun i _ => 8 - (intOf i).toNat)
  case atStart => exact ⟨0, by omega, rfl, HD.out.1, Kp.refl _ _⟩
  case round =>
    obtain ⟨k, hk, rfl, D, K⟩ := hrel
    have hdl := HD.out.1.lt
    have O : Opts wr g b0 b1 b2 b3 b4 b5 b6 b7 := ⟨HO.out.row.kp K (by simp; omega), (K.cell (p := ⟨b0, 0, none⟩) (by have := HB.out; show b0 < _; omega) (by have := HB.out; simp; omega)).trans HO.out.c0, (K.cell (p := ⟨b1, 0, none⟩) (by have := HB.out; show b1 < _; omega) (by have := HB.out; simp; omega)).trans HO.out.c1, (K.cell (p := ⟨b2, 0, none⟩) (by have := HB.out; show b2 < _; omega) (by have := HB.out; simp; omega)).trans HO.out.c2, (K.cell (p := ⟨b3, 0, none⟩) (by have := HB.out; show b3 < _; omega) (by have := HB.out; simp; omega)).trans HO.out.c3, (K.cell (p := ⟨b4, 0, none⟩) (by have := HB.out; show b4 < _; omega) (by have := HB.out; simp; omega)).trans HO.out.c4, (K.cell (p := ⟨b5, 0, none⟩) (by have := HB.out; show b5 < _; omega) (by have := HB.out; simp; omega)).trans HO.out.c5, (K.cell (p := ⟨b6, 0, none⟩) (by have := HB.out; show b6 < _; omega) (by have := HB.out; simp; omega)).trans HO.out.c6, (K.cell (p := ⟨b7, 0, none⟩) (by have := HB.out; show b7 < _; omega) (by have := HB.out; simp; omega)).trans HO.out.c7⟩
    have HOO := Lib.hid O
    clear O
    obtain rfl | rfl | rfl | rfl | rfl | rfl | rfl | rfl | rfl : k = 0 ∨ k = 1 ∨ k = 2 ∨ k = 3 ∨ k = 4 ∨ k = 5 ∨ k = 6 ∨ k = 7 ∨ k = 8 := by omega
    · have q : wr.cell? ⟨g, 0, none⟩ = some (.func (.func 55) #[] #[.pointer (some ⟨b0, 0, none⟩)]) := HOO.out.row.cell 0
      go_wp2_with fail
      go_at_call 55
      refine (opt_do0 b0 (d + 1) wr HOO.out.c0 D).mono ?_
      rintro e w1 ⟨rfl, D', K'⟩
      go_wp2_with fail
      exact ⟨⟨1, by omega, rfl, D', K.trans K'⟩, by simp [intOf]⟩
    · have q : wr.cell? ⟨g, 1, none⟩ = some (.func (.func 56) #[] #[.pointer (some ⟨b1, 0, none⟩)]) := HOO.out.row.cell 1
      go_wp2_with fail
      go_at_call 56
      refine (opt_do1 b1 (d + 1) wr HOO.out.c1 D).mono ?_
      rintro e w1 ⟨rfl, D', K'⟩
      go_wp2_with fail
      exact ⟨⟨2, by omega, rfl, D', K.trans K'⟩, by simp [intOf]⟩
    · have q : wr.cell? ⟨g, 2, none⟩ = some (.func (.func 57) #[] #[.pointer (some ⟨b2, 0, none⟩)]) := HOO.out.row.cell 2
      go_wp2_with fail
      go_at_call 57
      refine (opt_do2 b2 (d + 1) wr HOO.out.c2 D).mono ?_
      rintro e w1 ⟨rfl, D', K'⟩
      go_wp2_with fail
      exact ⟨⟨3, by omega, rfl, D', K.trans K'⟩, by simp [intOf]⟩
    · have q : wr.cell? ⟨g, 3, none⟩ = some (.func (.func 58) #[] #[.pointer (some ⟨b3, 0, none⟩)]) := HOO.out.row.cell 3
      go_wp2_with fail
      go_at_call 58
      refine (opt_do3 b3 (d + 1) wr HOO.out.c3 D).mono ?_
      rintro e w1 ⟨rfl, D', K'⟩
      go_wp2_with fail
      exact ⟨⟨4, by omega, rfl, D', K.trans K'⟩, by simp [intOf]⟩
    · have q : wr.cell? ⟨g, 4, none⟩ = some (.func (.func 59) #[] #[.pointer (some ⟨b4, 0, none⟩)]) := HOO.out.row.cell 4
      go_wp2_with fail
      go_at_call 59
      refine (opt_do4 b4 (d + 1) wr HOO.out.c4 D).mono ?_
      rintro e w1 ⟨rfl, D', K'⟩
      go_wp2_with fail
      exact ⟨⟨5, by omega, rfl, D', K.trans K'⟩, by simp [intOf]⟩
    · have q : wr.cell? ⟨g, 5, none⟩ = some (.func (.func 60) #[] #[.pointer (some ⟨b5, 0, none⟩)]) := HOO.out.row.cell 5
      go_wp2_with fail
      go_at_call 60
      refine (opt_do5 b5 (d + 1) wr HOO.out.c5 D).mono ?_
      rintro e w1 ⟨rfl, D', K'⟩
      go_wp2_with fail
      exact ⟨⟨6, by omega, rfl, D', K.trans K'⟩, by simp [intOf]⟩
    · have q : wr.cell? ⟨g, 6, none⟩ = some (.func (.func 61) #[] #[.pointer (some ⟨b6, 0, none⟩)]) := HOO.out.row.cell 6
      go_wp2_with fail
      go_at_call 61
      refine (opt_do6 b6 (d + 1) wr HOO.out.c6 D).mono ?_
      rintro e w1 ⟨rfl, D', K'⟩
      go_wp2_with fail
      exact ⟨⟨7, by omega, rfl, D', K.trans K'⟩, by simp [intOf]⟩
    · have q : wr.cell? ⟨g, 7, none⟩ = some (.func (.func 62) #[] #[.pointer (some ⟨b7, 0, none⟩)]) := HOO.out.row.cell 7
      go_wp2_with fail
      go_at_call 62
      refine (opt_do7 b7 (d + 1) wr HOO.out.c7 D).mono ?_
      rintro e w1 ⟨rfl, D', K'⟩
      go_wp2_with fail
      exact ⟨⟨8, by omega, rfl, D', K.trans K'⟩, by simp [intOf]⟩
    · have Z : Blk wr d 102 #[.int .u64 0, .int .u64 0, .int .u64 0, .bool false, .int .u64 0, .bool false, .bool false, .bool false, .int .u64 0, .bool false, .bool false, .int .u64 0, .int .u64 0] := HD.out.2.kp K (by simp)
      have q0 : wr.cell? ⟨d + 1, 0, none⟩ = some (.int .u64 0) := D.cell 0
      have q1 : wr.cell? ⟨d + 1, 1, none⟩ = some (.int .u64 0) := D.cell 1
      have q2 : wr.cell? ⟨d + 1, 2, none⟩ = some (.int .u64 0) := D.cell 2
      have q3 : wr.cell? ⟨d + 1, 3, none⟩ = some (.bool false) := D.cell 3
      have q4 : wr.cell? ⟨d + 1, 4, none⟩ = some (.int .u64 0) := D.cell 4
      have q5 : wr.cell? ⟨d + 1, 5, none⟩ = some (.bool false) := D.cell 5
      have q6 : wr.cell? ⟨d + 1, 6, none⟩ = some (.bool false) := D.cell 6
      have q7 : wr.cell? ⟨d + 1, 7, none⟩ = some (.bool false) := D.cell 7
      have q8 : wr.cell? ⟨d + 1, 8, none⟩ = some (.int .u64 9223372036854775807) := D.cell 8
      have q9 : wr.cell? ⟨d + 1, 9, none⟩ = some (.bool false) := D.cell 9
      have q10 : wr.cell? ⟨d + 1, 10, none⟩ = some (.bool false) := D.cell 10
      have q11 : wr.cell? ⟨d + 1, 11, none⟩ = some (.int .u64 33554432) := D.cell 11
      have q12 : wr.cell? ⟨d + 1, 12, none⟩ = some (.int .u64 8388608) := D.cell 12
      have z0 : wr.cell? ⟨d, 0, none⟩ = some (.int .u64 0) := Z.cell 0
      have y0 := Z.frozen 0
      have z1 : wr.cell? ⟨d, 1, none⟩ = some (.int .u64 0) := Z.cell 1
      have y1 := Z.frozen 1
      have z2 : wr.cell? ⟨d, 2, none⟩ = some (.int .u64 0) := Z.cell 2
      have y2 := Z.frozen 2
      have z3 : wr.cell? ⟨d, 3, none⟩ = some (.bool false) := Z.cell 3
      have y3 := Z.frozen 3
      have z4 : wr.cell? ⟨d, 4, none⟩ = some (.int .u64 0) := Z.cell 4
      have y4 := Z.frozen 4
      have z5 : wr.cell? ⟨d, 5, none⟩ = some (.bool false) := Z.cell 5
      have y5 := Z.frozen 5
      have z6 : wr.cell? ⟨d, 6, none⟩ = some (.bool false) := Z.cell 6
      have y6 := Z.frozen 6
      have z7 : wr.cell? ⟨d, 7, none⟩ = some (.bool false) := Z.cell 7
      have y7 := Z.frozen 7
      have z8 : wr.cell? ⟨d, 8, none⟩ = some (.int .u64 0) := Z.cell 8
      have y8 := Z.frozen 8
      have z9 : wr.cell? ⟨d, 9, none⟩ = some (.bool false) := Z.cell 9
      have y9 := Z.frozen 9
      have z10 : wr.cell? ⟨d, 10, none⟩ = some (.bool false) := Z.cell 10
      have y10 := Z.frozen 10
      have z11 : wr.cell? ⟨d, 11, none⟩ = some (.int .u64 0) := Z.cell 11
      have y11 := Z.frozen 11
      have z12 : wr.cell? ⟨d, 12, none⟩ = some (.int .u64 0) := Z.cell 12
      have y12 := Z.frozen 12
      have f2 := D.frozen 2
      have f4 := D.frozen 4
      have K2 : Below w.heap.size w wr := below_kp HK.out K HK.out.size (by have := HDD.out; simp; omega)
      have HF := Lib.hid (And.intro Z K2)
      clear D K Z K2 HOO
      go_wp2_with fail
      refine bodyPost_ret (ret_cell rfl rfl (((HF.out.1.far (p := ⟨d + 1, 2, none⟩) (by show d ≠ d + 1; omega) _).far (p := ⟨d + 1, 4, none⟩) (by show d ≠ d + 1; omega) _).row optR rfl) Tryz.underlying102 (by kernel_rfl)) rfl ⟨rfl, ?_⟩
      have kk := Below.refl w.heap.size w
      exact below_setCells (by have := HDD.out; omega) optR 0 _ (((HF.out.2.setCell (p := ⟨d + 1, 2, none⟩) (by have := HDD.out; show _ ≤ d + 1; omega) _).setCell (p := ⟨d + 1, 4, none⟩) (by have := HDD.out; show _ ≤ d + 1; omega) _))
end Go.Proofs.YtlafdmmjbkdkaaaGreatDoor
