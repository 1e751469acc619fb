/-
  shared.NewReader, cbor.NewDecoder over a bytes.Reader. Conditions: as each contract says.
-/
import Derived.Test.YtakkdpbpoghfgaaGreatDoorCe
namespace Go.Proofs.YtakkdpbpoghfgaaGreatDoor
open Go.RowKit

/-- The cells of a new SlickReaderStream. -/
def slNew (q : Nat) : Array Value := (.iface 149 (.pointer (some ⟨q, 0, none⟩)) :: (List.replicate 32 (.int .u8 0) ++ [.int .i64 0, .slice none 0 0, .bool false])).toArray

set_option maxRecDepth 100000 in
set_option maxHeartbeats 2000000 in
theorem newStream (r : Nat) (w : World) :
    Calls Tryz.prog 58 #[.iface 59 (.pointer (some ⟨r, 0, none⟩))] w fun e w' => e = .returned (.iface 148 (.pointer (some ⟨w.heap.size + 1, 0, none⟩))) ∧
      w' = (w.alloc (.cells (rtsC r 0 0 0) 151)).alloc (.cells (slNew w.heap.size) 156) := by
  go_enter Tryz.func58, Tryz.ntmps58
  go_wp2_with fail
  go_ret
  exact ⟨rfl, rfl⟩

theorem Blk.new' {W : World} {g : Nat} {t : TypeId} {cs : Array Value} (h : g = W.heap.size) : Blk (W.alloc (.cells cs t)) g t cs := by
  subst h
  exact Blk.new _ _ _

theorem blk_drew {W : World} {g : Nat} {t : TypeId} {cs : Array Value} (h : Blk W g t cs) : Blk W.drew g t cs := h

/-- What NewDecoder makes. -/
structure DecNew (w' : World) (B d s q sk lf r : Nat) : Prop where
  D : Blk w' d 136 (decC s sk lf 0 0 0)
  S : Blk w' s 156 (slNew q)
  Q : Blk w' q 151 (rtsC r 0 0 0)
  K : Blk w' sk 134 (List.replicate 10 (.int .u8 0)).toArray
  L : Blk w' lf 3 (List.replicate 10 (.int .i64 0)).toArray
  b : B ≤ d ∧ B ≤ s ∧ B ≤ q ∧ B ≤ sk ∧ B ≤ lf
  n : d ≠ s ∧ d ≠ q ∧ d ≠ sk ∧ d ≠ lf ∧ s ≠ q ∧ sk ≠ s ∧ sk ≠ q ∧ sk ≠ lf ∧ lf ≠ s ∧ lf ≠ q

set_option maxRecDepth 100000 in
set_option maxHeartbeats 4000000 in
theorem newDec (r : Nat) (w : World) :
    Calls Tryz.prog 52 #[.agg #[.bool true, .bool false, .int .i64 0, .bool false, .bool false, .bool false, .bool false], .iface 59 (.pointer (some ⟨r, 0, none⟩))] w fun e w' => ∃ d s q sk lf : Nat, e = .returned (.pointer (some ⟨d, 0, none⟩)) ∧ DecNew w' w.heap.size d s q sk lf r ∧
      Below w.heap.size w w' := by
  obtain ⟨W, hW⟩ : ∃ W, w.alloc (.cells #[.bool true, .bool false, .int .i64 0, .bool false, .bool false, .bool false, .bool false] 114) = W := ⟨_, rfl⟩
  obtain ⟨f, hf⟩ : ∃ f, w.heap.size = f := ⟨_, rfl⟩
  have B0 : Blk W f 114 #[.bool true, .bool false, .int .i64 0, .bool false, .bool false, .bool false, .bool false] := by rw [← hW, ← hf]; exact Blk.new _ _ _
  have bW : Below w.heap.size w W := by rw [← hW]; exact Old.alloc (Below.refl _ _) _
  have hsz : f < W.heap.size := B0.lt
  have H := Lib.hid (newStream r)
  have HB := Lib.hid (And.intro bW hf)
  have c0 : W.cell? ⟨f, 0, none⟩ = some (.bool true) := B0.cell 0
  have c1 : W.cell? ⟨f, 1, none⟩ = some (.bool false) := B0.cell 1
  have c2 : W.cell? ⟨f, 2, none⟩ = some (.int .i64 0) := B0.cell 2
  have c3 : W.cell? ⟨f, 3, none⟩ = some (.bool false) := B0.cell 3
  have c4 : W.cell? ⟨f, 4, none⟩ = some (.bool false) := B0.cell 4
  have c5 : W.cell? ⟨f, 5, none⟩ = some (.bool false) := B0.cell 5
  have c6 : W.cell? ⟨f, 6, none⟩ = some (.bool false) := B0.cell 6
  obtain ⟨i0, hi0, hz0, hz1, hz2⟩ := info_parts infoI
  obtain ⟨i1, hi1, hy0, hy1, hy2⟩ := info_parts infoPh
  have hmk8 : ∀ W : World, (Instr.makeSlice 132 (.int .i64 0) (.int .i64 10)).run Tryz.prog W = .ok (.slice (some ⟨W.heap.size, 0, none⟩) 0 10) (W.alloc (.cells (List.replicate 10 (.int .u8 0)).toArray 134)) := by
    intro W
    have hr := run_make (P := Tryz.prog) W 132 134 i1 (.int .u8 0) Tryz.underlying132 hi1 hy0 .i64 .i64 0 10 (by omega) (by omega) (by rw [hy2]; omega) (by omega)
    have ht0 : madeCells #[Value.int .u8 0] 10 = (List.replicate 10 (Value.int .u8 0)).toArray := by
      rw [← toList_madeCells_one (.int .u8 0) 10]
    rw [← ht0]
    simpa [hy1, Value.cells] using hr
  have hmk9 : ∀ W : World, (Instr.makeSlice 133 (.int .i64 0) (.int .i64 10)).run Tryz.prog W = .ok (.slice (some ⟨W.heap.size, 0, none⟩) 0 10) (W.alloc (.cells (List.replicate 10 (.int .i64 0)).toArray 3)) := by
    intro W
    have hr := run_make (P := Tryz.prog) W 133 3 i0 (.int .i64 0) Tryz.underlying133 hi0 hz0 .i64 .i64 0 10 (by omega) (by omega) (by rw [hz2]; omega) (by omega)
    have ht0 : madeCells #[Value.int .i64 0] 10 = (List.replicate 10 (Value.int .i64 0)).toArray := by
      rw [← toList_madeCells_one (.int .i64 0) 10]
    rw [← ht0]
    simpa [hz1, Value.cells] using hr
  clear B0 bW hi0 hi1 hz0 hz1 hz2 hy0 hy1 hy2
  go_enter Tryz.func52, Tryz.ntmps52
  go_wp2_with fail
  clear hW hf
  go_region_held3 (fun w' => Below W.heap.size W w' ∧ ∀ b o, b < W.heap.size → w'.cell? ⟨b, o, none⟩ = W.cell? ⟨b, o, none⟩) (first | exact stay_drew W | exact stay_alloc ‹_› _ | exact stay_alloc (stay_alloc ‹_› _) _ | go_keep)
    (first
      | (go_at_call 58; refine (H.out _).mono ?_; rintro _ w1 ⟨rfl, rfl⟩))
  all_goals rename_i hh
  all_goals replace hh := Lib.hid hh.1
  all_goals go_wp2_with fail
  all_goals go_ret
  all_goals
    apply Exists.intro
    apply Exists.intro
    apply Exists.intro
    apply Exists.intro
    apply Exists.intro
    refine ⟨rfl, ?_, ?_⟩
    · apply DecNew.mk
      all_goals first
        | exact blk_drew (Blk.new' (by simp))
        | exact blk_drew ((Blk.new' (by simp)).alloc _)
        | exact blk_drew (((Blk.new' (by simp)).alloc _).alloc _)
        | exact blk_drew ((((Blk.new' (by simp)).alloc _).alloc _).alloc _)
        | exact blk_drew (((((Blk.new' (by simp)).alloc _).alloc _).alloc _).alloc _)
        | (have := HB.out.1.size; omega)
        | trace_state
    · exact (Old.trans HB.out.1 hh.out)
end Go.Proofs.YtakkdpbpoghfgaaGreatDoor
