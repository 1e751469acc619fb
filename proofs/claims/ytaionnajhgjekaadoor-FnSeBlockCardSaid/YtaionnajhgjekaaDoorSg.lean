/-
  The walk of laws.seGood. Conditions: as the contract says.
-/
import Derived.Test.YtaionnajhgjekaaDoorSd
namespace Go.Proofs.YtaionnajhgjekaaDoor
open Go.RowKit

/-- A block that the statements speak of. -/
def BlkL.good (y : BlkL) : Prop := y.data.length ≤ 16384 ∧ y.c.hd

/-- What seGood comes to. -/
def GdPost (y : BlkL) (w : World) (e : Ending) (w' : World) : Prop := (∃ B, e = .returned (.bool B) ∧ (B = true → y.good)) ∧ Below w.heap.size w w'

set_option maxRecDepth 100000 in
set_option maxHeartbeats 2000000 in
theorem seGood_any (y : BlkL) (w : World) (hf : y.fit) :
    Calls Tryd.prog 14 #[.agg y.val] w (GdPost y w) := by
  obtain ⟨⟨v, k, u, d⟩, D⟩ := y
  unfold BlkL.val
  have HF := Lib.hid hf.1
  clear hf
  simp only
  have b0 := Old.alloc (Below.refl w.heap.size w) (.cells #[.int .u64 (v : Nat), .int .u64 (k : Nat), .int .u64 (u : Nat), .string ⟨d.toArray⟩, .string ⟨D.toArray⟩] 40)
  have B0 := Blk.new w 40 #[.int .u64 (v : Nat), .int .u64 (k : Nat), .int .u64 (u : Nat), .string ⟨d.toArray⟩, .string ⟨D.toArray⟩]
  obtain ⟨W, hW⟩ : ∃ W, w.alloc (.cells #[.int .u64 (v : Nat), .int .u64 (k : Nat), .int .u64 (u : Nat), .string ⟨d.toArray⟩, .string ⟨D.toArray⟩] 40) = W := ⟨_, rfl⟩
  rw [hW] at b0 B0
  have c0 : W.cell? ⟨w.heap.size, 0, none⟩ = some (.int .u64 (v : Nat)) := B0.cell 0
  have c1 : W.cell? ⟨w.heap.size, 1, none⟩ = some (.int .u64 (k : Nat)) := B0.cell 1
  have c2 : W.cell? ⟨w.heap.size, 2, none⟩ = some (.int .u64 (u : Nat)) := B0.cell 2
  have c3 : W.cell? ⟨w.heap.size, 3, none⟩ = some (.string ⟨d.toArray⟩) := B0.cell 3
  have c4 : W.cell? ⟨w.heap.size, 4, none⟩ = some (.string ⟨D.toArray⟩) := B0.cell 4
  clear B0
  by_cases hz : D.length ≤ 16384
  · have hzd : decide ((D.length : Int) ≤ 16384) = true := by simp; omega
    have HD := Lib.hid hz
    clear hz
    have hcl : Cs (W.alloc (.cells #[.int .u64 (v : Nat), .int .u64 (k : Nat), .int .u64 (u : Nat), .string ⟨d.toArray⟩] 38)) W.heap.size 0 [⟨v, k, u, d⟩] := fun i hi => by
      obtain rfl : i = 0 := by simpa using hi
      have B := Blk.new W 38 #[.int .u64 (v : Nat), .int .u64 (k : Nat), .int .u64 (u : Nat), .string ⟨d.toArray⟩]
      exact ⟨B.cell 0, B.cell 1, B.cell 2, B.cell 3⟩
    have HC := Lib.hid hcl
    clear hcl
    go_enter Tryd.func14, Tryd.ntmps14
    go_wp2_with fail
    clear hW
    refine (hdGood_any _ 1 1 [⟨v, k, u, d⟩] _ rfl (by omega) (fun x hx => by rw [List.mem_singleton.1 hx]; exact HF.out) (.inr ⟨_, _, rfl, HC.out⟩)).mono ?_
    rintro e w1 ⟨⟨Z, rfl, hZ⟩, b1⟩
    have b2 := Old.trans (Old.alloc b0 (.cells #[.int .u64 (v : Nat), .int .u64 (k : Nat), .int .u64 (u : Nat), .string ⟨d.toArray⟩] 38)) b1
    have HZ := Lib.hid hZ
    clear hZ HC b0 b1 c0 c1 c2 c3 c4
    go_wp2_with fail
    go_ret
    exact ⟨⟨_, rfl, fun h => ⟨HD.out, (HZ.out h).2 0 (by simp)⟩⟩, b2⟩
  · have hzd : decide ((D.length : Int) ≤ 16384) = false := by simp; omega
    clear hz
    go_enter Tryd.func14, Tryd.ntmps14
    go_wp2_with fail
    go_ret
    exact ⟨⟨_, rfl, fun h => by cases h⟩, b0⟩
end Go.Proofs.YtaionnajhgjekaaDoor
