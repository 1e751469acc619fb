/-
  The walk of spec.head at numbers below 256. Conditions: as each contract says.
-/
import Derived.Test.YtlafdmmjbkdkaaaGreatDoorJGl
import Derived.Test.YtlafdmmjbkdkaaaGreatDoorJSp
namespace Go.Proofs.YtlafdmmjbkdkaaaGreatDoor
open Go.RowKit

theorem hdL_low {k n : Nat} (h : n < 24) : hdL k n = [UInt8.ofNat (k + n)] := by unfold hdL; rw [if_pos h]
theorem hdL_high {k n : Nat} (h : ¬ n < 24) : hdL k n = [UInt8.ofNat (k + 24), UInt8.ofNat n] := by unfold hdL; rw [if_neg h]
theorem ofNat_int {n : Nat} (h : n < 256) : ((UInt8.ofNat n).toNat : Int) = n := by simp; omega

theorem or_0 : ∀ n : Nat, n < 24 → bits BinOp.or IntKind.u8 0 (n : Int) = ((0 + n : Nat) : Int) := by decide
set_option maxRecDepth 100000 in
set_option maxHeartbeats 4000000 in
theorem head_0 (n : Nat) (hn : n < 256) (w : World) :
    Calls Tryz.prog 24 #[.int .u8 0, .int .u64 n] w fun e w' => e = .returned (.string ⟨(hdL 0 n).toArray⟩) ∧ Below w.heap.size w w' := by
  have hw : IntKind.u8.wrap (n : Int) = (n : Int) := by rw [IntKind.wrap_u8]; omega
  by_cases h : n < 24
  · have hlt : decide ((n : Int) < 24) = true := by rw [decide_eq_true_eq]; omega
    have hor := or_0 n h
    have hx := ofNat_int (n := 0 + n) (by omega)
    rw [hdL_low h]
    obtain ⟨x, hxx⟩ : ∃ x, UInt8.ofNat (0 + n) = x := ⟨_, rfl⟩
    rw [hxx] at hx ⊢
    rw [← hx] at hor
    clear hx hxx
    obtain ⟨X, hX⟩ : ∃ X : Int, (x.toNat : Int) = X := ⟨_, rfl⟩
    rw [hX] at hor
    have hcv : (convert 45 9 (.slice (some ⟨w.heap.size, 0, none⟩) 1 1)).run Tryz.prog (w.alloc (.cells #[.int .u8 X] 5)) = .ok (.string ⟨#[x]⟩) (w.alloc (.cells #[.int .u8 X] 5)) := by
      rw [← hX]
      exact conv_str (P := Tryz.prog) Tryz.underlying45 Tryz.underlying5 Tryz.underlying9 (n := 1) (c := 1) (bs_new w 5 [x]) rfl
    clear hX
    go_enter Tryz.func24, Tryz.ntmps24
    go_wp2_with fail
    go_ret
    exact ⟨rfl, Old.alloc (Below.refl _ _) _⟩
  · have hlt : decide ((n : Int) < 24) = false := by rw [decide_eq_false_iff_not]; omega
    have hor2 : bits BinOp.or IntKind.u8 0 24 = 24 := by decide
    have hlt2 : decide ((n : Int) < 256) = true := by rw [decide_eq_true_eq]; omega
    have hx := ofNat_int hn
    rw [hdL_high h]
    obtain ⟨x, hxx⟩ : ∃ x, UInt8.ofNat n = x := ⟨_, rfl⟩
    rw [hxx] at hx ⊢
    have hcv : (convert 45 9 (.slice (some ⟨w.heap.size, 0, none⟩) 2 2)).run Tryz.prog (w.alloc (.cells #[.int .u8 24, .int .u8 (n : Int)] 5)) = .ok (.string ⟨#[24, x]⟩) (w.alloc (.cells #[.int .u8 24, .int .u8 (n : Int)] 5)) := by
      rw [← hx]
      exact conv_str (P := Tryz.prog) Tryz.underlying45 Tryz.underlying5 Tryz.underlying9 (n := 2) (c := 2) (bs_new w 5 [24, x]) rfl
    clear hx hxx
    go_enter Tryz.func24, Tryz.ntmps24
    go_wp2_with fail
    go_ret
    exact ⟨rfl, Old.alloc (Below.refl _ _) _⟩

theorem or_64 : ∀ n : Nat, n < 24 → bits BinOp.or IntKind.u8 64 (n : Int) = ((64 + n : Nat) : Int) := by decide
set_option maxRecDepth 100000 in
set_option maxHeartbeats 4000000 in
theorem head_2 (n : Nat) (hn : n < 256) (w : World) :
    Calls Tryz.prog 24 #[.int .u8 2, .int .u64 n] w fun e w' => e = .returned (.string ⟨(hdL 64 n).toArray⟩) ∧ Below w.heap.size w w' := by
  have hw : IntKind.u8.wrap (n : Int) = (n : Int) := by rw [IntKind.wrap_u8]; omega
  by_cases h : n < 24
  · have hlt : decide ((n : Int) < 24) = true := by rw [decide_eq_true_eq]; omega
    have hor := or_64 n h
    have hx := ofNat_int (n := 64 + n) (by omega)
    rw [hdL_low h]
    obtain ⟨x, hxx⟩ : ∃ x, UInt8.ofNat (64 + n) = x := ⟨_, rfl⟩
    rw [hxx] at hx ⊢
    rw [← hx] at hor
    clear hx hxx
    obtain ⟨X, hX⟩ : ∃ X : Int, (x.toNat : Int) = X := ⟨_, rfl⟩
    rw [hX] at hor
    have hcv : (convert 45 9 (.slice (some ⟨w.heap.size, 0, none⟩) 1 1)).run Tryz.prog (w.alloc (.cells #[.int .u8 X] 5)) = .ok (.string ⟨#[x]⟩) (w.alloc (.cells #[.int .u8 X] 5)) := by
      rw [← hX]
      exact conv_str (P := Tryz.prog) Tryz.underlying45 Tryz.underlying5 Tryz.underlying9 (n := 1) (c := 1) (bs_new w 5 [x]) rfl
    clear hX
    go_enter Tryz.func24, Tryz.ntmps24
    go_wp2_with fail
    go_ret
    exact ⟨rfl, Old.alloc (Below.refl _ _) _⟩
  · have hlt : decide ((n : Int) < 24) = false := by rw [decide_eq_false_iff_not]; omega
    have hor2 : bits BinOp.or IntKind.u8 64 24 = 88 := by decide
    have hlt2 : decide ((n : Int) < 256) = true := by rw [decide_eq_true_eq]; omega
    have hx := ofNat_int hn
    rw [hdL_high h]
    obtain ⟨x, hxx⟩ : ∃ x, UInt8.ofNat n = x := ⟨_, rfl⟩
    rw [hxx] at hx ⊢
    have hcv : (convert 45 9 (.slice (some ⟨w.heap.size, 0, none⟩) 2 2)).run Tryz.prog (w.alloc (.cells #[.int .u8 88, .int .u8 (n : Int)] 5)) = .ok (.string ⟨#[88, x]⟩) (w.alloc (.cells #[.int .u8 88, .int .u8 (n : Int)] 5)) := by
      rw [← hx]
      exact conv_str (P := Tryz.prog) Tryz.underlying45 Tryz.underlying5 Tryz.underlying9 (n := 2) (c := 2) (bs_new w 5 [88, x]) rfl
    clear hx hxx
    go_enter Tryz.func24, Tryz.ntmps24
    go_wp2_with fail
    go_ret
    exact ⟨rfl, Old.alloc (Below.refl _ _) _⟩

theorem or_96 : ∀ n : Nat, n < 24 → bits BinOp.or IntKind.u8 96 (n : Int) = ((96 + n : Nat) : Int) := by decide
set_option maxRecDepth 100000 in
set_option maxHeartbeats 4000000 in
theorem head_3 (n : Nat) (hn : n < 256) (w : World) :
    Calls Tryz.prog 24 #[.int .u8 3, .int .u64 n] w fun e w' => e = .returned (.string ⟨(hdL 96 n).toArray⟩) ∧ Below w.heap.size w w' := by
  have hw : IntKind.u8.wrap (n : Int) = (n : Int) := by rw [IntKind.wrap_u8]; omega
  by_cases h : n < 24
  · have hlt : decide ((n : Int) < 24) = true := by rw [decide_eq_true_eq]; omega
    have hor := or_96 n h
    have hx := ofNat_int (n := 96 + n) (by omega)
    rw [hdL_low h]
    obtain ⟨x, hxx⟩ : ∃ x, UInt8.ofNat (96 + n) = x := ⟨_, rfl⟩
    rw [hxx] at hx ⊢
    rw [← hx] at hor
    clear hx hxx
    obtain ⟨X, hX⟩ : ∃ X : Int, (x.toNat : Int) = X := ⟨_, rfl⟩
    rw [hX] at hor
    have hcv : (convert 45 9 (.slice (some ⟨w.heap.size, 0, none⟩) 1 1)).run Tryz.prog (w.alloc (.cells #[.int .u8 X] 5)) = .ok (.string ⟨#[x]⟩) (w.alloc (.cells #[.int .u8 X] 5)) := by
      rw [← hX]
      exact conv_str (P := Tryz.prog) Tryz.underlying45 Tryz.underlying5 Tryz.underlying9 (n := 1) (c := 1) (bs_new w 5 [x]) rfl
    clear hX
    go_enter Tryz.func24, Tryz.ntmps24
    go_wp2_with fail
    go_ret
    exact ⟨rfl, Old.alloc (Below.refl _ _) _⟩
  · have hlt : decide ((n : Int) < 24) = false := by rw [decide_eq_false_iff_not]; omega
    have hor2 : bits BinOp.or IntKind.u8 96 24 = 120 := by decide
    have hlt2 : decide ((n : Int) < 256) = true := by rw [decide_eq_true_eq]; omega
    have hx := ofNat_int hn
    rw [hdL_high h]
    obtain ⟨x, hxx⟩ : ∃ x, UInt8.ofNat n = x := ⟨_, rfl⟩
    rw [hxx] at hx ⊢
    have hcv : (convert 45 9 (.slice (some ⟨w.heap.size, 0, none⟩) 2 2)).run Tryz.prog (w.alloc (.cells #[.int .u8 120, .int .u8 (n : Int)] 5)) = .ok (.string ⟨#[120, x]⟩) (w.alloc (.cells #[.int .u8 120, .int .u8 (n : Int)] 5)) := by
      rw [← hx]
      exact conv_str (P := Tryz.prog) Tryz.underlying45 Tryz.underlying5 Tryz.underlying9 (n := 2) (c := 2) (bs_new w 5 [120, x]) rfl
    clear hx hxx
    go_enter Tryz.func24, Tryz.ntmps24
    go_wp2_with fail
    go_ret
    exact ⟨rfl, Old.alloc (Below.refl _ _) _⟩

theorem or_128 : ∀ n : Nat, n < 24 → bits BinOp.or IntKind.u8 128 (n : Int) = ((128 + n : Nat) : Int) := by decide
set_option maxRecDepth 100000 in
set_option maxHeartbeats 4000000 in
theorem head_4 (n : Nat) (hn : n < 256) (w : World) :
    Calls Tryz.prog 24 #[.int .u8 4, .int .u64 n] w fun e w' => e = .returned (.string ⟨(hdL 128 n).toArray⟩) ∧ Below w.heap.size w w' := by
  have hw : IntKind.u8.wrap (n : Int) = (n : Int) := by rw [IntKind.wrap_u8]; omega
  by_cases h : n < 24
  · have hlt : decide ((n : Int) < 24) = true := by rw [decide_eq_true_eq]; omega
    have hor := or_128 n h
    have hx := ofNat_int (n := 128 + n) (by omega)
    rw [hdL_low h]
    obtain ⟨x, hxx⟩ : ∃ x, UInt8.ofNat (128 + n) = x := ⟨_, rfl⟩
    rw [hxx] at hx ⊢
    rw [← hx] at hor
    clear hx hxx
    obtain ⟨X, hX⟩ : ∃ X : Int, (x.toNat : Int) = X := ⟨_, rfl⟩
    rw [hX] at hor
    have hcv : (convert 45 9 (.slice (some ⟨w.heap.size, 0, none⟩) 1 1)).run Tryz.prog (w.alloc (.cells #[.int .u8 X] 5)) = .ok (.string ⟨#[x]⟩) (w.alloc (.cells #[.int .u8 X] 5)) := by
      rw [← hX]
      exact conv_str (P := Tryz.prog) Tryz.underlying45 Tryz.underlying5 Tryz.underlying9 (n := 1) (c := 1) (bs_new w 5 [x]) rfl
    clear hX
    go_enter Tryz.func24, Tryz.ntmps24
    go_wp2_with fail
    go_ret
    exact ⟨rfl, Old.alloc (Below.refl _ _) _⟩
  · have hlt : decide ((n : Int) < 24) = false := by rw [decide_eq_false_iff_not]; omega
    have hor2 : bits BinOp.or IntKind.u8 128 24 = 152 := by decide
    have hlt2 : decide ((n : Int) < 256) = true := by rw [decide_eq_true_eq]; omega
    have hx := ofNat_int hn
    rw [hdL_high h]
    obtain ⟨x, hxx⟩ : ∃ x, UInt8.ofNat n = x := ⟨_, rfl⟩
    rw [hxx] at hx ⊢
    have hcv : (convert 45 9 (.slice (some ⟨w.heap.size, 0, none⟩) 2 2)).run Tryz.prog (w.alloc (.cells #[.int .u8 152, .int .u8 (n : Int)] 5)) = .ok (.string ⟨#[152, x]⟩) (w.alloc (.cells #[.int .u8 152, .int .u8 (n : Int)] 5)) := by
      rw [← hx]
      exact conv_str (P := Tryz.prog) Tryz.underlying45 Tryz.underlying5 Tryz.underlying9 (n := 2) (c := 2) (bs_new w 5 [152, x]) rfl
    clear hx hxx
    go_enter Tryz.func24, Tryz.ntmps24
    go_wp2_with fail
    go_ret
    exact ⟨rfl, Old.alloc (Below.refl _ _) _⟩

theorem or_160 : ∀ n : Nat, n < 24 → bits BinOp.or IntKind.u8 160 (n : Int) = ((160 + n : Nat) : Int) := by decide
set_option maxRecDepth 100000 in
set_option maxHeartbeats 4000000 in
theorem head_5 (n : Nat) (hn : n < 256) (w : World) :
    Calls Tryz.prog 24 #[.int .u8 5, .int .u64 n] w fun e w' => e = .returned (.string ⟨(hdL 160 n).toArray⟩) ∧ Below w.heap.size w w' := by
  have hw : IntKind.u8.wrap (n : Int) = (n : Int) := by rw [IntKind.wrap_u8]; omega
  by_cases h : n < 24
  · have hlt : decide ((n : Int) < 24) = true := by rw [decide_eq_true_eq]; omega
    have hor := or_160 n h
    have hx := ofNat_int (n := 160 + n) (by omega)
    rw [hdL_low h]
    obtain ⟨x, hxx⟩ : ∃ x, UInt8.ofNat (160 + n) = x := ⟨_, rfl⟩
    rw [hxx] at hx ⊢
    rw [← hx] at hor
    clear hx hxx
    obtain ⟨X, hX⟩ : ∃ X : Int, (x.toNat : Int) = X := ⟨_, rfl⟩
    rw [hX] at hor
    have hcv : (convert 45 9 (.slice (some ⟨w.heap.size, 0, none⟩) 1 1)).run Tryz.prog (w.alloc (.cells #[.int .u8 X] 5)) = .ok (.string ⟨#[x]⟩) (w.alloc (.cells #[.int .u8 X] 5)) := by
      rw [← hX]
      exact conv_str (P := Tryz.prog) Tryz.underlying45 Tryz.underlying5 Tryz.underlying9 (n := 1) (c := 1) (bs_new w 5 [x]) rfl
    clear hX
    go_enter Tryz.func24, Tryz.ntmps24
    go_wp2_with fail
    go_ret
    exact ⟨rfl, Old.alloc (Below.refl _ _) _⟩
  · have hlt : decide ((n : Int) < 24) = false := by rw [decide_eq_false_iff_not]; omega
    have hor2 : bits BinOp.or IntKind.u8 160 24 = 184 := by decide
    have hlt2 : decide ((n : Int) < 256) = true := by rw [decide_eq_true_eq]; omega
    have hx := ofNat_int hn
    rw [hdL_high h]
    obtain ⟨x, hxx⟩ : ∃ x, UInt8.ofNat n = x := ⟨_, rfl⟩
    rw [hxx] at hx ⊢
    have hcv : (convert 45 9 (.slice (some ⟨w.heap.size, 0, none⟩) 2 2)).run Tryz.prog (w.alloc (.cells #[.int .u8 184, .int .u8 (n : Int)] 5)) = .ok (.string ⟨#[184, x]⟩) (w.alloc (.cells #[.int .u8 184, .int .u8 (n : Int)] 5)) := by
      rw [← hx]
      exact conv_str (P := Tryz.prog) Tryz.underlying45 Tryz.underlying5 Tryz.underlying9 (n := 2) (c := 2) (bs_new w 5 [184, x]) rfl
    clear hx hxx
    go_enter Tryz.func24, Tryz.ntmps24
    go_wp2_with fail
    go_ret
    exact ⟨rfl, Old.alloc (Below.refl _ _) _⟩

theorem or_192 : ∀ n : Nat, n < 24 → bits BinOp.or IntKind.u8 192 (n : Int) = ((192 + n : Nat) : Int) := by decide
set_option maxRecDepth 100000 in
set_option maxHeartbeats 4000000 in
theorem head_6 (n : Nat) (hn : n < 256) (w : World) :
    Calls Tryz.prog 24 #[.int .u8 6, .int .u64 n] w fun e w' => e = .returned (.string ⟨(hdL 192 n).toArray⟩) ∧ Below w.heap.size w w' := by
  have hw : IntKind.u8.wrap (n : Int) = (n : Int) := by rw [IntKind.wrap_u8]; omega
  by_cases h : n < 24
  · have hlt : decide ((n : Int) < 24) = true := by rw [decide_eq_true_eq]; omega
    have hor := or_192 n h
    have hx := ofNat_int (n := 192 + n) (by omega)
    rw [hdL_low h]
    obtain ⟨x, hxx⟩ : ∃ x, UInt8.ofNat (192 + n) = x := ⟨_, rfl⟩
    rw [hxx] at hx ⊢
    rw [← hx] at hor
    clear hx hxx
    obtain ⟨X, hX⟩ : ∃ X : Int, (x.toNat : Int) = X := ⟨_, rfl⟩
    rw [hX] at hor
    have hcv : (convert 45 9 (.slice (some ⟨w.heap.size, 0, none⟩) 1 1)).run Tryz.prog (w.alloc (.cells #[.int .u8 X] 5)) = .ok (.string ⟨#[x]⟩) (w.alloc (.cells #[.int .u8 X] 5)) := by
      rw [← hX]
      exact conv_str (P := Tryz.prog) Tryz.underlying45 Tryz.underlying5 Tryz.underlying9 (n := 1) (c := 1) (bs_new w 5 [x]) rfl
    clear hX
    go_enter Tryz.func24, Tryz.ntmps24
    go_wp2_with fail
    go_ret
    exact ⟨rfl, Old.alloc (Below.refl _ _) _⟩
  · have hlt : decide ((n : Int) < 24) = false := by rw [decide_eq_false_iff_not]; omega
    have hor2 : bits BinOp.or IntKind.u8 192 24 = 216 := by decide
    have hlt2 : decide ((n : Int) < 256) = true := by rw [decide_eq_true_eq]; omega
    have hx := ofNat_int hn
    rw [hdL_high h]
    obtain ⟨x, hxx⟩ : ∃ x, UInt8.ofNat n = x := ⟨_, rfl⟩
    rw [hxx] at hx ⊢
    have hcv : (convert 45 9 (.slice (some ⟨w.heap.size, 0, none⟩) 2 2)).run Tryz.prog (w.alloc (.cells #[.int .u8 216, .int .u8 (n : Int)] 5)) = .ok (.string ⟨#[216, x]⟩) (w.alloc (.cells #[.int .u8 216, .int .u8 (n : Int)] 5)) := by
      rw [← hx]
      exact conv_str (P := Tryz.prog) Tryz.underlying45 Tryz.underlying5 Tryz.underlying9 (n := 2) (c := 2) (bs_new w 5 [216, x]) rfl
    clear hx hxx
    go_enter Tryz.func24, Tryz.ntmps24
    go_wp2_with fail
    go_ret
    exact ⟨rfl, Old.alloc (Below.refl _ _) _⟩
end Go.Proofs.YtlafdmmjbkdkaaaGreatDoor
