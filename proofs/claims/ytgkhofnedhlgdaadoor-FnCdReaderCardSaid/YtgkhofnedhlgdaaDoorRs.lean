/-
  The walk of spec.StreamCid. Conditions: as the contract says.
-/
import Derived.Test.YtgkhofnedhlgdaaDoorRc
namespace Go.Proofs.YtgkhofnedhlgdaaDoor
open Go.RowKit

/-- What StreamCid comes to. -/
def scOf (l : List UInt8) (r : Option (CidL × Nat)) : Value :=
  match r with
  | some (x, k) => .tuple #[.agg #[.int .u64 x.version, .int .u64 x.codec, .int .u64 x.code, .string ⟨x.digest.toArray⟩], .int .i64 k, .int .u8 0]
  | none => .tuple #[.agg #[.int .u64 0, .int .u64 0, .int .u64 0, .string ⟨#[]⟩], .int .i64 0, .int .u8 (if l = [] then 1 else 2)]

set_option maxRecDepth 100000 in
set_option maxHeartbeats 2000000 in
theorem streamCid_any (l : List UInt8) (w : World) (hl : l.length ≤ 1000000) :
    Calls Tryd.prog 20 #[.string ⟨l.toArray⟩] w fun e w' => e = .returned (scOf l (cdRd l)) ∧ Below w.heap.size w w' := by
  have b0 := Old.alloc (Below.refl w.heap.size w) (.cells #[.int .u64 0, .int .u64 0, .int .u64 0, .string ⟨#[]⟩] 30)
  have B0 := Blk.new w 30 #[.int .u64 0, .int .u64 0, .int .u64 0, .string ⟨#[]⟩]
  by_cases h0 : l = []
  · subst h0
    go_enter Tryd.func20, Tryd.ntmps20
    go_wp2_with fail
    refine bodyPost_ret (ret_cell_tmp_tmp rfl rfl B0 Tryd.underlying30 (by kernel_rfl)) rfl ?_
    exact ⟨rfl, b0⟩
  · have hem : l.isEmpty = false := by cases l with | nil => exact absurd rfl h0 | cons _ _ => rfl
    obtain ⟨r, hr⟩ : ∃ r, cdRd l = r := ⟨_, rfl⟩
    have hrc := fun W => readCid_any l W hl
    rw [hr] at hrc
    have HC := Lib.hid hrc
    have HR := Lib.hid (And.intro hr h0)
    clear hrc hr h0
    go_enter Tryd.func20, Tryd.ntmps20
    go_wp2_with fail
    generalize w.alloc (.cells #[.int .u64 0, .int .u64 0, .int .u64 0, .string ⟨#[]⟩] 30) = W at *
    refine (HC.out W).mono ?_
    rintro e w1 ⟨rfl, b1⟩
    have b01 := Old.trans b0 b1
    have B1 := B0.old b1
    clear b0 b1 B0
    cases r with
    | none =>
      simp only [rcOf]
      have b02 := Old.alloc b01 (.cells #[.int .u64 0, .int .u64 0, .int .u64 0, .string ⟨#[]⟩] 30)
      have B2 := B1.alloc (.cells #[.int .u64 0, .int .u64 0, .int .u64 0, .string ⟨#[]⟩] 30)
      have C2 := Blk.new w1 30 #[.int .u64 0, .int .u64 0, .int .u64 0, .string ⟨#[]⟩]
      have f0 := B2.frozen 0
      have f1 := B2.frozen 1
      have f2 := B2.frozen 2
      have f3 := B2.frozen 3
      have r0 : (w1.alloc (.cells #[.int .u64 0, .int .u64 0, .int .u64 0, .string ⟨#[]⟩] 30)).cell? ⟨w.heap.size, 0, none⟩ = some (.int .u64 0) := B2.cell 0
      have r1 : (w1.alloc (.cells #[.int .u64 0, .int .u64 0, .int .u64 0, .string ⟨#[]⟩] 30)).cell? ⟨w.heap.size, 1, none⟩ = some (.int .u64 0) := B2.cell 1
      have r2 : (w1.alloc (.cells #[.int .u64 0, .int .u64 0, .int .u64 0, .string ⟨#[]⟩] 30)).cell? ⟨w.heap.size, 2, none⟩ = some (.int .u64 0) := B2.cell 2
      have r3 : (w1.alloc (.cells #[.int .u64 0, .int .u64 0, .int .u64 0, .string ⟨#[]⟩] 30)).cell? ⟨w.heap.size, 3, none⟩ = some (.string ⟨#[]⟩) := B2.cell 3
      clear B1 b01
      go_wp2_with fail
      refine bodyPost_ret (ret_cell_tmp_tmp rfl rfl (B2.row [.int .u64 0, .int .u64 0, .int .u64 0, .string ⟨#[]⟩] rfl) Tryd.underlying30 (by kernel_rfl)) rfl ?_
      rw [HR.out.1]
      refine ⟨?_, below_setCells (Nat.le_refl _) [.int .u64 0, .int .u64 0, .int .u64 0, .string ⟨#[]⟩] 0 _ b02⟩
      simp only [scOf]
      rw [if_neg HR.out.2]
      rfl
    | some y =>
      obtain ⟨x, k⟩ := y
      have hdl : x.digest.length ≤ l.length := (cdRd_some HR.out.1).2.2.2.1
      have hbig : decide ((33554432 : Int) < (x.digest.length : Int)) = false := by simp; omega
      clear hdl
      simp only [rcOf]
      have b02 := Old.alloc b01 (.cells #[.int .u64 x.version, .int .u64 x.codec, .int .u64 x.code, .string ⟨x.digest.toArray⟩] 30)
      have B2 := B1.alloc (.cells #[.int .u64 x.version, .int .u64 x.codec, .int .u64 x.code, .string ⟨x.digest.toArray⟩] 30)
      have C2 := Blk.new w1 30 #[.int .u64 x.version, .int .u64 x.codec, .int .u64 x.code, .string ⟨x.digest.toArray⟩]
      obtain ⟨W2, hW2⟩ : ∃ W2, w1.alloc (.cells #[.int .u64 x.version, .int .u64 x.codec, .int .u64 x.code, .string ⟨x.digest.toArray⟩] 30) = W2 := ⟨_, rfl⟩
      rw [hW2] at b02 B2 C2
      have f0 := B2.frozen 0
      have f1 := B2.frozen 1
      have f2 := B2.frozen 2
      have f3 := B2.frozen 3
      have r0 : W2.cell? ⟨w.heap.size, 0, none⟩ = some (.int .u64 0) := B2.cell 0
      have r1 : W2.cell? ⟨w.heap.size, 1, none⟩ = some (.int .u64 0) := B2.cell 1
      have r2 : W2.cell? ⟨w.heap.size, 2, none⟩ = some (.int .u64 0) := B2.cell 2
      have r3 : W2.cell? ⟨w.heap.size, 3, none⟩ = some (.string ⟨#[]⟩) := B2.cell 3
      have q0 : W2.cell? ⟨w1.heap.size, 0, none⟩ = some (.int .u64 x.version) := C2.cell 0
      have q1 : W2.cell? ⟨w1.heap.size, 1, none⟩ = some (.int .u64 x.codec) := C2.cell 1
      have q2 : W2.cell? ⟨w1.heap.size, 2, none⟩ = some (.int .u64 x.code) := C2.cell 2
      have q3 : W2.cell? ⟨w1.heap.size, 3, none⟩ = some (.string ⟨x.digest.toArray⟩) := C2.cell 3
      clear B1 b01
      go_wp2_with fail
      refine bodyPost_ret (ret_cell_tmp_tmp rfl rfl (B2.row [.int .u64 x.version, .int .u64 x.codec, .int .u64 x.code, .string ⟨x.digest.toArray⟩] rfl) Tryd.underlying30 (by kernel_rfl)) rfl ?_
      rw [HR.out.1]
      exact ⟨rfl, below_setCells (Nat.le_refl _) [.int .u64 x.version, .int .u64 x.codec, .int .u64 x.code, .string ⟨x.digest.toArray⟩] 0 _ b02⟩
end Go.Proofs.YtgkhofnedhlgdaaDoor
