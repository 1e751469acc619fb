/-
  The walks of laws.zzFits1, zzFits2. Conditions: as each contract says.
-/
import Derived.Test.YtdfhfaeeejijcaaDoorIb
import Derived.Test.YtdfhfaeeejijcaaDoorCdS
import Derived.Deep.QuietTactic
import Derived.BigQuiet
namespace Go.Proofs.YtdfhfaeeejijcaaDoor
open Go.RowKit

set_option maxRecDepth 100000 in
theorem zzFits1_b (a b c : Value) (d : List UInt8) (w : World) (hd : d.length ≤ 9223372036854775807) :
    Calls Tryd.prog 7 #[.agg #[a, b, c, .string ⟨d.toArray⟩]] w fun e w' => e = .returned (.bool (decide (d.length ≤ 2147483647))) ∧ Below w.heap.size w w' := by
  go_enter Tryd.func7, Tryd.ntmps7
  go_wp2_with fail
  all_goals go_ret
  all_goals refine ⟨?_, (Below.refl _ _).alloc (Nat.le_refl _) _⟩
  all_goals simp
  all_goals omega

set_option maxRecDepth 100000 in
set_option maxHeartbeats 2000000 in
theorem zzFits2_any (a : Option Addr) (n c : Nat) (L : List CidL) (w : World) (hL : L.length = n) (hn : n ≤ 9223372036854775807) (hf : ∀ x ∈ L, x.fit) (h : n = 0 ∨ ∃ b off, a = some ⟨b, off, none⟩ ∧ Cs w b off L) :
    Calls Tryd.prog 6 #[.slice a n c] w fun e w' => (∃ B, e = .returned (.bool B) ∧ (B = true → n ≤ 2147483647)) ∧ Below w.heap.size w w' := by
  by_cases hz : n ≤ 2147483647
  · have hzd : decide ((2147483647 : Int) < (n : Int)) = false := by simp; omega
    have HF := Lib.hid (And.intro hL (And.intro hf h))
    clear hL hf h
    go_enter Tryd.func6, Tryd.ntmps6
    go_wp2_with fail
    go_loopw [10] (fun i wr => ∃ k : Nat, k ≤ n ∧ i = .int .i64 k ∧ Below w.heap.size w wr) (fun i _ => n - (intOf i).toNat)
    case atStart => exact ⟨0, Nat.zero_le _, rfl, Below.refl _ _⟩
    case round =>
      obtain ⟨k, hk, rfl, hB⟩ := hrel
      by_cases hkn : k < n
      · obtain h0 | ⟨b, off, rfl, hcs⟩ := HF.out.2.2
        · omega
        · have hkL : k < L.length := by rw [HF.out.1]; exact hkn
          obtain ⟨c0, c1, c2, c3⟩ := (hcs.old hB) k hkL
          have hfit := HF.out.2.1 L[k] (List.getElem_mem hkL)
          obtain ⟨x, hx⟩ : ∃ x, L[k] = x := ⟨_, rfl⟩
          rw [hx] at c0 c1 c2 c3 hfit
          have hkI : (k : Int) < (n : Int) := by omega
          have HX := Lib.hid hfit
          clear hcs hfit hx
          have hB1 := Old.alloc hB (.cells #[.int .u64 (x.version : Nat), .int .u64 (x.codec : Nat), .int .u64 (x.code : Nat), .string ⟨x.digest.toArray⟩] 26)
          go_wp2_with fail
          refine (zzFits1_b _ _ _ _ _ HX.out.2.2.2).mono ?_
          rintro e w1 ⟨rfl, b1⟩
          have hB2 := Old.trans hB1 b1
          obtain ⟨Z, hZ⟩ : ∃ Z, decide (x.digest.length ≤ 2147483647) = Z := ⟨_, rfl⟩
          rw [hZ]
          clear hZ c0 c1 c2 c3
          cases Z
          · go_wp2_with fail
            go_ret
            exact ⟨⟨_, rfl, fun h => by cases h⟩, hB2⟩
          · go_wp2_with fail
            all_goals go_roundw
            case rel => exact ⟨k + 1, hkn, by go_num, hB2⟩
            case measure => simp [intOf]; omega
      · have hkn' : k = n := by omega
        subst hkn'
        go_wp2_with fail
        go_ret
        exact ⟨⟨_, rfl, fun _ => hz⟩, hB⟩
  · have hzd : decide ((2147483647 : Int) < (n : Int)) = true := by simp; omega
    have HF := Lib.hid hz
    clear hz h
    go_enter Tryd.func6, Tryd.ntmps6
    go_wp2_with fail
    go_ret
    exact ⟨⟨_, rfl, fun h => by cases h⟩, Below.refl _ _⟩
end Go.Proofs.YtdfhfaeeejijcaaDoor
