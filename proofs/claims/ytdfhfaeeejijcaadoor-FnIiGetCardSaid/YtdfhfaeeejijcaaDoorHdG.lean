/-
  The walk of laws.hdGood. Conditions: as the contract says.
-/
import Derived.Test.YtdfhfaeeejijcaaDoorTd
import Derived.Test.YtdfhfaeeejijcaaDoorZz
namespace Go.Proofs.YtdfhfaeeejijcaaDoor
open Go.RowKit

/-- Tidy, with a digest of at most 200 bytes. -/
def CidL.hd (x : CidL) : Prop := x.tidy ∧ x.digest.length ≤ 200

/-- What hdGood comes to. -/
def HgPost (n : Nat) (L : List CidL) (w : World) (e : Ending) (w' : World) : Prop :=
  (∃ B, e = .returned (.bool B) ∧ (B = true → n ≤ 100 ∧ ∀ (j : Nat) (hj : j < L.length), L[j].hd)) ∧ Below w.heap.size w w'

set_option maxRecDepth 100000 in
set_option maxHeartbeats 2000000 in
theorem hdGood_any (a : Option Addr) (n c : Nat) (L : List CidL) (w : World) (hL : L.length = n) (hn : n ≤ 9223372036854775807) (hf : ∀ x ∈ L, x.fit) (h : n = 0 ∨ ∃ b off, a = some ⟨b, off, none⟩ ∧ Cs w b off L) :
    Calls Tryd.prog 8 #[.slice a n c] w (HgPost n L w) := by
  by_cases hz : n ≤ 100
  · have hzd : decide ((100 : Int) < (n : Int)) = false := by simp; omega
    have HF := Lib.hid (And.intro hL (And.intro hf h))
    clear hL hf h
    go_enter Tryd.func8, Tryd.ntmps8
    go_wp2_with fail
    go_loopw [3, 4] (fun o i wr => ∃ (k : Nat) (B : Bool), k ≤ n ∧ o = .bool B ∧ i = .int .i64 k ∧ Below w.heap.size w wr ∧ (B = true → ∀ (j : Nat) (hj : j < L.length), j < k → L[j].hd)) (fun _ i _ => n - (intOf i).toNat)
    case atStart => exact ⟨0, true, Nat.zero_le _, rfl, rfl, Below.refl _ _, fun _ j _ h => absurd h (Nat.not_lt_zero _)⟩
    case round =>
      obtain ⟨k, B, hk, rfl, rfl, hB, hG⟩ := hrel
      have HG := Lib.hid hG
      clear hG
      cases B
      · go_wp2_with fail
        go_ret
        exact ⟨⟨_, rfl, fun h => by cases h⟩, hB⟩
      · by_cases hkn : k < n
        · obtain h0 | ⟨b, off, rfl, hcs⟩ := HF.out.2.2
          · omega
          · have hkL : k < L.length := by rw [HF.out.1]; exact hkn
            obtain ⟨c0, c1, c2, c3⟩ := (hcs.old hB) k hkL
            have hfit := HF.out.2.1 L[k] (List.getElem_mem hkL)
            obtain ⟨x, hx⟩ : ∃ x, L[k] = x := ⟨_, rfl⟩
            rw [hx] at c0 c1 c2 c3 hfit
            have hkI : (k : Int) < (n : Int) := by omega
            have HX := Lib.hid (And.intro hfit hx)
            clear hcs hfit hx
            have htd := tidy_any x.version x.codec x.code x.digest wr HX.out.1.2.2.2
            obtain ⟨Z, hZ⟩ : ∃ Z, tidyB x.version x.codec x.code x.digest = Z := ⟨_, rfl⟩
            rw [hZ] at htd
            have HT := Lib.hid (And.intro htd hZ)
            clear htd hZ
            by_cases hd : x.digest.length ≤ 200
            · have hdd : decide ((x.digest.length : Int) ≤ 200) = true := by simp; omega
              have HD := Lib.hid hd
              clear hd
              go_wp2_with fail
              refine (HT.out.1).mono ?_
              rintro e w1 ⟨rfl, b1⟩
              have hB2 := Old.trans hB b1
              clear c0 c1 c2 c3
              go_wp2_with fail
              all_goals go_roundw
              case rel =>
                refine ⟨k + 1, Z, hkn, rfl, by go_num, hB2, fun hz j hj hjk => ?_⟩
                by_cases hjk' : j < k
                · exact HG.out trivial j hj hjk'
                · obtain rfl : j = k := by omega
                  rw [HX.out.2]
                  exact ⟨(tidyB_iff x).1 (HT.out.2.trans hz), HD.out⟩
              case measure => simp [intOf]; omega
            · have hdd : decide ((x.digest.length : Int) ≤ 200) = false := by simp; omega
              clear hd
              go_wp2_with fail
              all_goals go_roundw
              case rel => exact ⟨k + 1, false, hkn, rfl, by go_num, hB, fun h => by cases h⟩
              case measure => simp [intOf]; omega
        · have hkn' : k = n := by omega
          subst hkn'
          go_wp2_with fail
          go_ret
          exact ⟨⟨_, rfl, fun _ => ⟨hz, fun j hj => HG.out trivial j hj (by rw [HF.out.1] at hj; exact hj)⟩⟩, hB⟩
  · have hzd : decide ((100 : Int) < (n : Int)) = true := by simp; omega
    have HF := Lib.hid hz
    clear hz h
    go_enter Tryd.func8, Tryd.ntmps8
    go_wp2_with fail
    go_ret
    exact ⟨⟨_, rfl, fun h => by cases h⟩, Below.refl _ _⟩
end Go.Proofs.YtdfhfaeeejijcaaDoor
