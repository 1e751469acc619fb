/-
  The walks of cid.Cid.Equals, carv1.CarHeader.containsRoot, Matches. Conditions: as each contract says.
-/
import Derived.Test.YtdfhfaeeejijcaaDoorHdG
import Derived.Test.YtdfhfaeeejijcaaDoorCdI
import Derived.Deep.QuietTactic
import Derived.BigQuiet
import Derived.Deep.RegionHeld3
import Derived.Deep.AppendLies
import Derived.OwnWalk
namespace Go.Proofs.YtdfhfaeeejijcaaDoor
open Go.RowKit

/-- From the first cell of block g on lie the texts M. -/
def Ss (w : World) (g : Nat) (M : List (List UInt8)) : Prop := ∀ (i : Nat) (h : i < M.length), w.cell? ⟨g, i, none⟩ = some (.string ⟨M[i].toArray⟩)
theorem Ss.old {w w' : World} {g : Nat} {M : List (List UInt8)} (h : Ss w g M) (hb : Below w.heap.size w w') : Ss w' g M := fun i hi => (hb.cell (p := ⟨g, i, none⟩) (World.block_lt_of_cell? w _ (h i hi))).trans (h i hi)

set_option maxRecDepth 100000 in
theorem equals_any (s t : List UInt8) (B : Bool) (w : World) (hB : decide (s = t) = B) :
    Calls Tryd.prog 32 #[.agg #[.string ⟨s.toArray⟩], .agg #[.string ⟨t.toArray⟩]] w fun e w' => e = .returned (.bool B) ∧ Below w.heap.size w w' := by
  by_cases h : s = t
  · have hB' : B = true := by rw [← hB]; simpa using h
    subst hB' h
    clear hB
    go_enter Tryd.func32, Tryd.ntmps32
    go_wp2_with fail
    go_ret
    exact ⟨rfl, Old.alloc (Old.alloc (Below.refl _ _) _) _⟩
  · have hB' : B = false := by rw [← hB]; simpa using h
    subst hB'
    clear hB
    go_enter Tryd.func32, Tryd.ntmps32
    go_wp2_with fail
    go_ret
    exact ⟨rfl, Old.alloc (Old.alloc (Below.refl _ _) _) _⟩

set_option maxRecDepth 100000 in
set_option maxHeartbeats 2000000 in
theorem containsRoot_yes (hb g n c : Nat) (M : List (List UInt8)) (s : List UInt8) (w : World) (h0 : w.cell? ⟨hb, 0, none⟩ = some (.slice (some ⟨g, 0, none⟩) n c)) (hM : M.length = n) (hn : n ≤ 1000) (hc : Ss w g M) (hs : s ∈ M) :
    Calls Tryd.prog 33 #[.pointer (some ⟨hb, 0, none⟩), .agg #[.string ⟨s.toArray⟩]] w fun e w' => e = .returned (.bool true) ∧ Below w.heap.size w w' := by
  have HF := Lib.hid (And.intro hM (And.intro hc hs))
  have b0 := Old.alloc (Below.refl w.heap.size w) (.cells #[.string ⟨s.toArray⟩] 58)
  have B0 := Blk.new w 58 #[.string ⟨s.toArray⟩]
  have h1 : (w.alloc (.cells #[.string ⟨s.toArray⟩] 58)).cell? ⟨hb, 0, none⟩ = some (.slice (some ⟨g, 0, none⟩) n c) := (b0.cell (p := ⟨hb, 0, none⟩) (World.block_lt_of_cell? w _ h0)).trans h0
  clear hM hc hs h0
  go_enter Tryd.func33, Tryd.ntmps33
  go_wp2_with fail
  go_loopw [12] (fun i wr => ∃ k : Nat, k ≤ n ∧ i = .int .i64 k ∧ Below w.heap.size w wr ∧ Blk wr w.heap.size 58 #[.string ⟨s.toArray⟩] ∧ ∀ (j : Nat) (hj : j < M.length), j < k → M[j] ≠ s) (fun i _ => n - (intOf i).toNat)
  case atStart => exact ⟨0, Nat.zero_le _, rfl, b0, B0, fun j _ h => absurd h (Nat.not_lt_zero _)⟩
  case round =>
    clear b0 B0 h1
    obtain ⟨k, hk, rfl, hB, BS, hG⟩ := hrel
    have HG := Lib.hid hG
    clear hG
    by_cases hkn : k < n
    · have hkL : k < M.length := by rw [HF.out.1]; exact hkn
      have c0 := (HF.out.2.1.old hB) k hkL
      obtain ⟨x, hx⟩ : ∃ x, M[k] = x := ⟨_, rfl⟩
      rw [hx] at c0
      have hkI : (k : Int) < (n : Int) := by omega
      have HX := Lib.hid hx
      have cS : wr.cell? ⟨w.heap.size, 0, none⟩ = some (.string ⟨s.toArray⟩) := BS.cell 0
      have zS := BS.lt
      clear hx
      obtain ⟨E, hE⟩ : ∃ E, decide (x = s) = E := ⟨_, rfl⟩
      have heq := fun W => equals_any x s E W hE
      have HE := Lib.hid (And.intro heq hE)
      clear heq hE
      go_wp2_with fail
      refine (HE.out.1 _).mono ?_
      rintro e w1 ⟨rfl, b1⟩
      have hB1 := Old.trans (Old.alloc hB (.cells #[.string ⟨x.toArray⟩] 58)) b1
      have BS1 := (BS.alloc (.cells #[.string ⟨x.toArray⟩] 58)).old b1
      clear c0 cS BS zS
      cases E
      · go_wp2_with fail
        all_goals go_roundw
        case rel =>
          refine ⟨k + 1, hkn, by go_num, hB1, BS1, fun j hj hjk => ?_⟩
          by_cases hjk' : j < k
          · exact HG.out j hj hjk'
          · obtain rfl : j = k := by omega
            rw [HX.out]
            simpa using HE.out.2
        case measure => simp [intOf]; omega
      · go_wp2_with fail
        go_ret
        exact ⟨rfl, hB1⟩
    · exfalso
      obtain ⟨j, hj, he⟩ := List.getElem_of_mem HF.out.2.2
      exact HG.out j hj (by have := HF.out.1; omega) he

/-- What Matches comes to, of roots A, B and versions v, u. -/
def mOk (A B : List (List UInt8)) (v u : Int) (r : Bool) : Prop := (r = true ∧ v = u ∧ A.length = B.length ∧ ∀ s ∈ A, s ∈ B) ∨ (r = false ∧ (v ≠ u ∨ A.length ≠ B.length))

set_option maxRecDepth 100000 in
set_option maxHeartbeats 2000000 in
theorem matches_any (g1 n1 c1 g2 n2 c2 : Nat) (A B : List (List UInt8)) (v u : Int) (r : Bool) (w : World) (hA : A.length = n1) (hB : B.length = n2) (h1 : n1 ≤ 1000) (h2 : n2 ≤ 1000) (cA : Ss w g1 A) (cB : Ss w g2 B) (hm : mOk A B v u r) :
    Calls Tryd.prog 20 #[.agg #[.slice (some ⟨g1, 0, none⟩) n1 c1, .int .u64 v], .agg #[.slice (some ⟨g2, 0, none⟩) n2 c2, .int .u64 u]] w fun e w' => e = .returned (.bool r) ∧ Below w.heap.size w w' := by
  have hb0 := Old.alloc (Old.alloc (Below.refl w.heap.size w) (.cells #[.slice (some ⟨g1, 0, none⟩) n1 c1, .int .u64 v] 52)) (.cells #[.slice (some ⟨g2, 0, none⟩) n2 c2, .int .u64 u] 52)
  have hbA := (Blk.new w 52 #[.slice (some ⟨g1, 0, none⟩) n1 c1, .int .u64 v]).alloc (.cells #[.slice (some ⟨g2, 0, none⟩) n2 c2, .int .u64 u] 52)
  have hbB : Blk ((w.alloc (.cells #[.slice (some ⟨g1, 0, none⟩) n1 c1, .int .u64 v] 52)).alloc (.cells #[.slice (some ⟨g2, 0, none⟩) n2 c2, .int .u64 u] 52)) (w.heap.size + 1) 52 #[.slice (some ⟨g2, 0, none⟩) n2 c2, .int .u64 u] := by
    have := Blk.new (w.alloc (.cells #[.slice (some ⟨g1, 0, none⟩) n1 c1, .int .u64 v] 52)) 52 #[.slice (some ⟨g2, 0, none⟩) n2 c2, .int .u64 u]
    simpa using this
  rcases hm with ⟨rfl, rfl, hl, hs⟩ | ⟨rfl, hne⟩
  · obtain rfl : n1 = n2 := by omega
    by_cases hone : n1 = 1
    · subst hone
      obtain ⟨x, rfl⟩ := List.length_eq_one_iff.1 hA
      obtain ⟨y, rfl⟩ := List.length_eq_one_iff.1 hB
      obtain rfl : x = y := by simpa using hs
      have p1 := (cA.old hb0) 0 (by simp)
      have p2 := (cB.old hb0) 0 (by simp)
      have HE := Lib.hid (fun W => equals_any x x true W (by simp))
      clear cA cB hs hA hB hl
      go_enter Tryd.func20, Tryd.ntmps20
      go_wp2_with fail
      generalize (w.alloc (.cells #[.slice (some ⟨g1, 0, none⟩) (1 : Nat) c1, .int .u64 v] 52)).alloc (.cells #[.slice (some ⟨g2, 0, none⟩) (1 : Nat) c2, .int .u64 v] 52) = W at *
      have q1 : W.cell? ⟨w.heap.size, 0, none⟩ = some (.slice (some ⟨g1, 0, none⟩) 1 c1) := hbA.cell 0
      have q2 : W.cell? ⟨w.heap.size + 1, 0, none⟩ = some (.slice (some ⟨g2, 0, none⟩) 1 c2) := hbB.cell 0
      simp only [List.getElem_cons_zero] at p1 p2
      have z1 := hbA.lt
      have z2 := hbB.lt
      have y1 : g1 < W.heap.size := World.block_lt_of_cell? W _ p1
      have y2 : g2 < W.heap.size := World.block_lt_of_cell? W _ p2
      clear hbA hbB
      go_region_held3 (fun w' => Below W.heap.size W w' ∧ ∀ b o, b < W.heap.size → w'.cell? ⟨b, o, none⟩ = W.cell? ⟨b, o, none⟩) (first | exact stay_drew W | exact stay_below ‹_› ‹_› | go_keep) (first | (go_at_call 32; refine (HE.out _).mono ?_; rintro _ w3 ⟨rfl, b3⟩))
      go_wp2_with fail
      go_ret
      exact ⟨rfl, Old.trans hb0 (by first | assumption | exact (‹Below W.heap.size W w3 ∧ _›).1)⟩
    · have hone' : ((n1 : Int) == 1) = false := by simp; omega
      have HF := Lib.hid (And.intro hA (And.intro hB (And.intro hs (And.intro cA (And.intro cB hone)))))
      clear hA hB hs cA cB hone hl h2
      go_enter Tryd.func20, Tryd.ntmps20
      go_wp2_with fail
      go_loopw [35] (fun i wr => ∃ k : Nat, k ≤ n1 ∧ i = .int .i64 k ∧ Below w.heap.size w wr ∧ Blk wr (w.heap.size + 1) 52 #[.slice (some ⟨g2, 0, none⟩) n1 c2, .int .u64 v]) (fun i _ => n1 - (intOf i).toNat)
      case atStart => exact ⟨0, Nat.zero_le _, rfl, hb0, hbB⟩
      case round =>
        clear hb0 hbA hbB
        obtain ⟨k, hk, rfl, hW, BB⟩ := hrel
        by_cases hkn : k < n1
        · have hkL : k < A.length := by rw [HF.out.1]; exact hkn
          have c0 := (HF.out.2.2.2.1.old hW) k hkL
          have hmem := HF.out.2.2.1 A[k] (List.getElem_mem hkL)
          obtain ⟨x, hx⟩ : ∃ x, A[k] = x := ⟨_, rfl⟩
          rw [hx] at c0 hmem
          have hkI : (k : Int) < (n1 : Int) := by omega
          have q2 : wr.cell? ⟨w.heap.size + 1, 0, none⟩ = some (.slice (some ⟨g2, 0, none⟩) n1 c2) := BB.cell 0
          have hW1 := Old.alloc hW (.cells #[.string ⟨x.toArray⟩] 58)
          have BB1 := BB.alloc (.cells #[.string ⟨x.toArray⟩] 58)
          have hcr := containsRoot_yes (w.heap.size + 1) g2 n1 c2 B x (wr.alloc (.cells #[.string ⟨x.toArray⟩] 58)) (BB1.cell 0) HF.out.2.1 h1 (HF.out.2.2.2.2.1.old hW1) hmem
          have HC := Lib.hid hcr
          clear hx hmem hcr
          go_wp2_with fail
          refine (HC.out).mono ?_
          rintro e w1 ⟨rfl, b1⟩
          have hW2 := Old.trans hW1 b1
          have BB2 := BB1.old b1
          clear c0 q2 BB hW1 BB1 HC
          go_wp2_with fail
          all_goals go_roundw
          case rel => exact ⟨k + 1, hkn, by go_num, hW2, BB2⟩
          case measure => simp [intOf]; omega
        · have hkn' : k = n1 := by omega
          subst hkn'
          go_wp2_with fail
          go_ret
          exact ⟨rfl, hW⟩
  · by_cases hvu : v = u
    · subst hvu
      have hnn : ¬ (n1 : Int) = (n2 : Int) := by
        rcases hne with h | h
        · exact absurd rfl h
        · omega
      clear hne hA hB cA cB
      go_enter Tryd.func20, Tryd.ntmps20
      go_wp2_with fail
      go_ret
      exact ⟨rfl, hb0⟩
    · clear hne hA hB cA cB
      go_enter Tryd.func20, Tryd.ntmps20
      go_wp2_with fail
      go_ret
      exact ⟨rfl, hb0⟩
end Go.Proofs.YtdfhfaeeejijcaaDoor
