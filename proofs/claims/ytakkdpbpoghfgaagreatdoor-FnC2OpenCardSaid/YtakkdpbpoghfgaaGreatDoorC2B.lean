/-
  The walks of car.Characteristics.WriteTo, car.Header.WriteTo over a bytes.Buffer, of impl.C2Bytes and of FnC2Bytes. Conditions: as each contract says.
-/
import Derived.Test.YtakkdpbpoghfgaaGreatDoorIb
import Derived.Test.YtakkdpbpoghfgaaGreatDoorShelf
import Derived.Test.YtakkdpbpoghfgaaGreatDoorC2Small
import Derived.Test.YtakkdpbpoghfgaaGreatDoorLe
import Derived.StillTailTactics
namespace Go.Proofs.YtakkdpbpoghfgaaGreatDoor
open Go.RowKit

theorem one_bytes (l : List UInt8) : ∀ v ∈ Lib.byteCells l, v.oneCell' = true := by
  intro v hv
  obtain ⟨x, _, rfl⟩ := List.mem_map.1 hv
  rfl
theorem src_bs {w : World} {g : Nat} {l : List UInt8} (h : Bs w g 0 l) : ∀ j v, (Lib.byteCells l)[j]? = some v → w.cell? ((⟨g, 0, none⟩ : Addr).add j) = some v := by
  intro j v hj
  obtain ⟨hlt, rfl⟩ := List.getElem?_eq_some_iff.1 hj
  rw [Lib.byteCells_length] at hlt
  have := h j hlt
  have hadd : (⟨g, 0, none⟩ : Addr).add j = ⟨g, 0 + j, none⟩ := by unfold Addr.add; split <;> simp_all
  rw [hadd, this]
  simp [Lib.byteCells]
theorem mk_bytes (k : Nat) (hk : k ≤ 1000) (z : Int) (hz : z = k) (W : World) : (Instr.makeSlice 54 (.int .i64 z) (.int .i64 z)).run Tryz.prog W = .ok (.slice (some ⟨W.heap.size, 0, none⟩) k k) (W.alloc (.cells (List.replicate k (.int .u8 0)).toArray 5)) := by
  obtain ⟨i0, hi, hz0, hz1, hz2⟩ := info_parts info5
  subst hz
  have hr := run_make (P := Tryz.prog) W 54 5 i0 (.int .u8 0) Tryz.underlying54 hi hz0 .i64 .i64 k k (by omega) (by omega) (by rw [hz2]; omega) (by omega)
  have ht0 : madeCells #[Value.int .u8 0] k = (List.replicate k (Value.int .u8 0)).toArray := by
    rw [← toList_madeCells_one (.int .u8 0) k]
  rw [← ht0]
  simpa [hz1, Value.cells] using hr

end Go.Proofs.YtakkdpbpoghfgaaGreatDoor
