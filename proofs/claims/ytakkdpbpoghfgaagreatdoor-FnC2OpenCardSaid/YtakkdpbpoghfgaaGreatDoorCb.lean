/-
  cbor.Decoder: decodeUint, decodeLen of the three first bytes that the pragma has; pushPhase. Conditions: as each contract says.
-/
import Derived.Test.YtakkdpbpoghfgaaGreatDoorCa
import Derived.Lib.ConvBytes
import Derived.Deep.AppendLies
namespace Go.Proofs.YtakkdpbpoghfgaaGreatDoor
open Go.RowKit

/-- The cells of a Decoder over the stream in block s. -/
def decC (s sk lf sl : Nat) (ph : Int) (ll : Nat) : Array Value := #[.bool true, .bool false, .int .i64 0, .bool false, .bool false, .bool false, .bool false, .iface 148 (.pointer (some ⟨s, 0, none⟩)), .slice (some ⟨sk, 0, none⟩) sl 10, .int .u8 ph, .slice (some ⟨lf, 0, none⟩) ll 10]

set_option maxRecDepth 100000 in
theorem du2 (a : Value) (w : World) : Calls Tryz.prog 73 #[a, .int .u8 2] w fun e w' => e = .returned (.tuple #[.int .u64 2, .nilIface]) ∧ w' = w := by
  go_enter Tryz.func73, Tryz.ntmps73
  go_wp2_with fail
  go_ret2
  exact ⟨rfl, rfl⟩

set_option maxRecDepth 100000 in
theorem du161 (a : Value) (w : World) : Calls Tryz.prog 73 #[a, .int .u8 161] w fun e w' => e = .returned (.tuple #[.int .u64 1, .nilIface]) ∧ w' = w := by
  go_enter Tryz.func73, Tryz.ntmps73
  go_wp2_with fail
  go_ret2
  exact ⟨rfl, rfl⟩

set_option maxRecDepth 100000 in
theorem dl161 (a : Value) (w : World) : Calls Tryz.prog 77 #[a, .int .u8 161] w fun e w' => e = .returned (.tuple #[.int .i64 1, .nilIface]) ∧ w' = w := by
  go_enter Tryz.func77, Tryz.ntmps77
  go_wp2_with fail
  refine (du161 a w).mono ?_
  rintro e w1 ⟨rfl, rfl⟩
  go_wp2_with fail
  go_ret2
  exact ⟨rfl, rfl⟩

set_option maxRecDepth 100000 in
theorem du103 (a : Value) (w : World) : Calls Tryz.prog 73 #[a, .int .u8 103] w fun e w' => e = .returned (.tuple #[.int .u64 7, .nilIface]) ∧ w' = w := by
  go_enter Tryz.func73, Tryz.ntmps73
  go_wp2_with fail
  go_ret2
  exact ⟨rfl, rfl⟩

set_option maxRecDepth 100000 in
theorem dl103 (a : Value) (w : World) : Calls Tryz.prog 77 #[a, .int .u8 103] w fun e w' => e = .returned (.tuple #[.int .i64 7, .nilIface]) ∧ w' = w := by
  go_enter Tryz.func77, Tryz.ntmps77
  go_wp2_with fail
  refine (du103 a w).mono ?_
  rintro e w1 ⟨rfl, rfl⟩
  go_wp2_with fail
  go_ret2
  exact ⟨rfl, rfl⟩

theorem infoPh : (Tryz.prog.info? 134).map (fun i => (i.zero, i.size, i.bytes)) = some (some (.int .u8 0), 1, 1) := by kernel_rfl
theorem infoI : (Tryz.prog.info? 3).map (fun i => (i.zero, i.size, i.bytes)) = some (some (.int .i64 0), 1, 8) := by kernel_rfl

set_option maxRecDepth 100000 in
set_option maxHeartbeats 2000000 in
theorem push_any (d s sk lf : Nat) (ll : Nat) (ph nph : Int) (ks : List Value) (w : World) (h : Blk w d 136 (decC s sk lf 0 ph ll)) (hk : Blk w sk 134 ks.toArray) (hkl : ks.length = 10) (hds : d ≠ sk) :
    Calls Tryz.prog 72 #[.pointer (some ⟨d, 0, none⟩), .int .u8 nph] w fun e w' => e = .returned (.tuple #[]) ∧ Blk w' d 136 (decC s sk lf 1 nph ll) ∧ Kp [d, sk] w w' := by
  have q8 : w.cell? ⟨d, 8, none⟩ = some (.slice (some ⟨sk, 0, none⟩) 0 10) := h.cell 8
  have q9 : w.cell? ⟨d, 9, none⟩ = some (.int .u8 ph) := h.cell 9
  obtain ⟨k0, rest, rfl⟩ : ∃ k0 rest, ks = k0 :: rest := by
    cases ks with
    | nil => simp at hkl
    | cons a b => exact ⟨a, b, rfl⟩
  have c0 : w.cell? ⟨sk, 0, none⟩ = some k0 := hk.cell 0
  have g0 := hk.frozen 0
  have f8 := h.frozen 8
  have f9 := h.frozen 9
  have hsd : ¬ sk = d := fun e => hds e.symm
  have hds' : ¬ d = sk := hds
  have hdl := h.lt
  have hkl' := hk.lt
  obtain ⟨i0, hi0, hz0, hz1, hz2⟩ := info_parts infoPh
  go_enter Tryz.func72, Tryz.ntmps72
  go_wp2_with fail
  go_region_with (fail)
  all_goals go_wp2_with fail
  all_goals go_end0
  all_goals
    have h2 := (((h.far (p := ⟨sk, 0, none⟩) hds (.int .u8 ph)).set_ 8 (.slice (some ⟨sk, 0, none⟩) 1 10)).set_ 9 (.int .u8 nph)).alloc (.cells #[.int .u8 ph] 134)
    have k2 := ((((Kp.refl [d, sk] w).setCell (p := ⟨sk, 0, none⟩) (.inl (by simp)) (.int .u8 ph)).setCell (p := ⟨d, 8, none⟩) (.inl (by simp)) (.slice (some ⟨sk, 0, none⟩) 1 10)).setCell (p := ⟨d, 9, none⟩) (.inl (by simp)) (.int .u8 nph)).alloc (.cells #[.int .u8 ph] 134)
    exact ⟨rfl, h2.drew, k2.drew⟩
end Go.Proofs.YtakkdpbpoghfgaaGreatDoor
