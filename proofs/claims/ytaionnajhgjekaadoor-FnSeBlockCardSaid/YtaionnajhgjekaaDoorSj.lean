/-
  The walks of laws.zzFits3, laws.seJoined. Conditions: as each contract says.
-/
import Derived.Test.YtaionnajhgjekaaDoorIb
import Derived.Test.YtaionnajhgjekaaDoorSo
import Derived.Lib.AppendStr
import Derived.OwnWalk
namespace Go.Proofs.YtaionnajhgjekaaDoor
open Go.RowKit

/-- What zzFits3 comes to. -/
def Z3Post (n : Nat) (w : World) (e : Ending) (w' : World) : Prop := (∃ B, e = .returned (.bool B) ∧ (B = true → n ≤ 2147483647)) ∧ w = w'

set_option maxRecDepth 100000 in
set_option maxHeartbeats 2000000 in
theorem zzFits3_any (a : Option Addr) (n c : Nat) (S : List (List UInt8)) (w : World) (hL : S.length = n) (hn : n ≤ 9223372036854775807) (hf : ∀ s ∈ S, s.length ≤ 9223372036854775807) (h : n = 0 ∨ ∃ b off, a = some ⟨b, off, none⟩ ∧ So w b off S) :
    Calls Tryd.prog 7 #[.slice a n c] w (Z3Post n w) := by
  by_cases hz : n ≤ 2147483647
  · have hzd : decide ((2147483647 : Int) < (n : Int)) = false := by simp; omega
    have HF := Lib.hid (And.intro hL (And.intro hf h))
    clear hL hf h
    go_enter Tryd.func7, Tryd.ntmps7
    go_wp2_with fail
    go_loop [10] (fun i => ∃ k : Nat, k ≤ n ∧ i = .int .i64 k) (fun i => n - (intOf i).toNat)
    case atStart => exact ⟨0, Nat.zero_le _, rfl⟩
    case round =>
      obtain ⟨k, hk, rfl⟩ := hrel
      by_cases hkn : k < n
      · obtain h0 | ⟨b, off, rfl, hcs⟩ := HF.out.2.2
        · omega
        · have hkL : k < S.length := by rw [HF.out.1]; exact hkn
          have c0 := hcs k hkL
          have hfit := HF.out.2.1 S[k] (List.getElem_mem hkL)
          obtain ⟨x, hx⟩ : ∃ x, S[k] = x := ⟨_, rfl⟩
          rw [hx] at c0 hfit
          have hkI : (k : Int) < (n : Int) := by omega
          clear hcs hx
          by_cases hx31 : x.length ≤ 2147483647
          · have hxd : decide ((2147483647 : Int) < (x.length : Int)) = false := by simp; omega
            go_wp2_with fail
            all_goals go_round
            case rel => exact ⟨k + 1, hkn, by go_num⟩
            case measure => simp [intOf]; omega
          · have hxd : decide ((2147483647 : Int) < (x.length : Int)) = true := by simp; omega
            go_wp2_with fail
            go_ret
            exact ⟨⟨_, rfl, fun h => by cases h⟩, rfl⟩
      · have hkn' : k = n := by omega
        subst hkn'
        go_wp2_with fail
        go_ret
        exact ⟨⟨_, rfl, fun _ => hz⟩, rfl⟩
  · have hzd : decide ((2147483647 : Int) < (n : Int)) = true := by simp; omega
    have HF := Lib.hid hz
    clear hz h
    go_enter Tryd.func7, Tryd.ntmps7
    go_wp2_with fail
    go_ret
    exact ⟨⟨_, rfl, fun h => by cases h⟩, rfl⟩

/-- string(v), v a row of bytes that the call owns, or nil. -/
theorem conv_own {P : Program} {src e dst : TypeId} (hs : P.underlying src = some (.slice e)) (he : P.underlying e = some (.int .u8)) (hd : P.underlying dst = some .string) {w : World} {base : Nat} {v : Value} {l : List UInt8} (h : w.ownsRow base e 1 v l.length (Lib.byteCells l)) :
    (convert src dst v).run P w = .ok (.string ⟨l.toArray⟩) w := by
  have h' := h
  rcases h.2 with ⟨rfl, h0⟩ | ⟨g, cap, cur, rfl, _⟩
  · obtain rfl := List.eq_nil_of_length_eq_zero h0
    exact run_convert_bytes_nil w src e hs he 0 0 dst hd
  · exact conv_str hs he hd (bs_own h') rfl

/-- What seJoined comes to. -/
def SjPost (n : Nat) (S : List (List UInt8)) (w : World) (e : Ending) (w' : World) : Prop :=
  ((∃ s, e = .returned (.tuple #[.string s, .bool false])) ∨ (e = .returned (.tuple #[.string ⟨S.flatten.toArray⟩, .bool true]) ∧ n ≤ 50 ∧ ∀ (j : Nat) (hj : j < S.length), S[j].length ≤ 16384)) ∧ Below w.heap.size w w'

theorem flat_len (S : List (List UInt8)) (h : ∀ (j : Nat) (hj : j < S.length), S[j].length ≤ 16384) : S.flatten.length ≤ S.length * 16384 := by
  induction S with
  | nil => simp
  | cons s S ih =>
    have h0 := h 0 (by simp)
    have := ih (fun j hj => by have := h (j + 1) (by simp; omega); simpa using this)
    simp only [List.getElem_cons_zero] at h0
    rw [List.flatten_cons, List.length_append, List.length_cons]
    omega
theorem flat_take (S : List (List UInt8)) (k : Nat) (h : k < S.length) : (S.take (k + 1)).flatten = (S.take k).flatten ++ S[k] := by
  rw [List.take_succ_eq_append_getElem h, List.flatten_append, List.flatten_cons, List.flatten_nil, List.append_nil]
theorem bytes_one' (l : List UInt8) : ∀ u ∈ Lib.byteCells l, u.oneCell' = true := by
  intro u hu
  obtain ⟨_, _, rfl⟩ := List.mem_map.1 hu
  rfl
theorem strCells_bytes (l : List UInt8) : Lib.strCells ⟨l.toArray⟩ = Lib.byteCells l := by
  simp [Lib.strCells, Lib.byteCells]

set_option maxRecDepth 100000 in
set_option maxHeartbeats 2000000 in
theorem seJoined_any (a : Option Addr) (n c : Nat) (S : List (List UInt8)) (w : World) (hL : S.length = n) (hn : n ≤ 9223372036854775807) (h : n = 0 ∨ ∃ b off, a = some ⟨b, off, none⟩ ∧ So w b off S) :
    Calls Tryd.prog 8 #[.slice a n c] w (SjPost n S w) := by
  obtain ⟨i0, hi0, hz0, hz1, hz2⟩ := info_parts info5
  by_cases hz : n ≤ 50
  · have hzd : decide ((50 : Int) < (n : Int)) = false := by simp; omega
    have HF := Lib.hid (And.intro hL h)
    clear hL h
    go_enter Tryd.func8, Tryd.ntmps8
    go_wp2_with fail
    go_loopw [4, 5] (fun v i wr => ∃ k : Nat, k ≤ n ∧ i = .int .i64 k ∧ Below w.heap.size w wr ∧ wr.ownsRow w.heap.size 5 1 v (S.take k).flatten.length (Lib.byteCells (S.take k).flatten) ∧ ∀ (j : Nat) (hj : j < S.length), j < k → S[j].length ≤ 16384) (fun _ i _ => n - (intOf i).toNat)
    case atStart => exact ⟨0, Nat.zero_le _, rfl, Below.refl _ _, World.ownsRow_nil _ _ _ _, fun j _ h => absurd h (Nat.not_lt_zero _)⟩
    case round =>
      obtain ⟨k, hk, rfl, hB, hown, hG⟩ := hrel
      have HG := Lib.hid hG
      clear hG
      by_cases hkn : k < n
      · obtain h0 | ⟨b, off, rfl, hcs⟩ := HF.out.2
        · omega
        · have hkL : k < S.length := by rw [HF.out.1]; exact hkn
          have c0 := (hcs.old hB) k hkL
          have hft := flat_take S k hkL
          have hfl := flat_len (S.take k) (fun j hj => by
            rw [List.getElem_take]; exact HG.out j (by simp at hj; omega) (by simp at hj; omega))
          rw [List.length_take] at hfl
          obtain ⟨x, hx⟩ : ∃ x, S[k] = x := ⟨_, rfl⟩
          rw [hx] at c0 hft
          obtain ⟨F, hF⟩ : ∃ F, (S.take k).flatten = F := ⟨_, rfl⟩
          rw [hF] at hown hfl hft
          have hF5 : F.length ≤ 819200 := by omega
          have hkI : (k : Int) < (n : Int) := by omega
          have HX := Lib.hid (And.intro hx hft)
          clear hcs hx hft hF hfl
          by_cases hx31 : x.length ≤ 16384
          · have hxd : decide ((16384 : Int) < (x.length : Int)) = false := by simp; omega
            have HXL := Lib.hid hx31
            go_wp2_with (at_builtin; refine Lib.wpList_append_own_string _ rfl _ _ 48 9 rfl w.heap.size 5 i0 Tryd.underlying48 Tryd.underlying9 hi0 hz0 hz1 hz2 _ F.length (Lib.byteCells F) (by rfl) hown ⟨x.toArray⟩ (by rfl) (by show F.length + x.length ≤ maxLen; unfold maxLen; omega) (by show F.length + x.length ≤ _; omega) hB.size ?_; intro v' w1 hown1 hgrow1 _)
            have hB1 := grown_old hB hown hgrow1
            have hown2 : w1.ownsRow w.heap.size 5 1 v' (F ++ x).length (Lib.byteCells (F ++ x)) := by
              rw [strCells_bytes] at hown1
              rw [List.length_append, Lib.byteCells_append]
              exact hown1
            clear hown hown1 hgrow1 c0 hB
            go_wp2_with fail
            all_goals go_roundw
            case rel =>
              refine ⟨k + 1, hkn, by go_num, hB1, by rw [HX.out.2]; exact hown2, fun j hj hjk => ?_⟩
              by_cases hjk' : j < k
              · exact HG.out j hj hjk'
              · obtain rfl : j = k := by omega
                rw [HX.out.1]; exact HXL.out
            case measure => simp [intOf]; omega
          · have hxd : decide ((16384 : Int) < (x.length : Int)) = true := by simp; omega
            go_wp2_with fail
            go_ret2
            exact ⟨.inl ⟨_, rfl⟩, hB⟩
      · have hkn' : k = n := by omega
        subst hkn'
        rw [List.take_of_length_le (by rw [HF.out.1]; exact Nat.le_refl _)] at hown
        have hcv := conv_own (P := Tryd.prog) Tryd.underlying48 Tryd.underlying5 Tryd.underlying9 hown
        go_wp2_with fail
        go_ret2
        exact ⟨.inr ⟨rfl, hz, fun j hj => HG.out j hj (by rw [HF.out.1] at hj; exact hj)⟩, hB⟩
  · have hzd : decide ((50 : Int) < (n : Int)) = true := by simp; omega
    have HF := Lib.hid hz
    clear hz h
    go_enter Tryd.func8, Tryd.ntmps8
    go_wp2_with fail
    go_ret2
    exact ⟨.inl ⟨_, rfl⟩, Below.refl _ _⟩
end Go.Proofs.YtaionnajhgjekaaDoor
