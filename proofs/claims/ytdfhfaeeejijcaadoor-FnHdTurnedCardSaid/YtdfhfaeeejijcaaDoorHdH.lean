/-
  The walk of impl.HdMatches. Conditions: as the contract says.
-/
import Derived.Test.YtdfhfaeeejijcaaDoorHdI
namespace Go.Proofs.YtdfhfaeeejijcaaDoor
open Go.RowKit

set_option maxRecDepth 100000 in
set_option maxHeartbeats 2000000 in
theorem hdMatches_any (a1 : Option Addr) (n1 c1 : Nat) (L1 : List CidL) (v : Int) (a2 : Option Addr) (n2 c2 : Nat) (L2 : List CidL) (u : Int) (r : Bool) (w : World)
    (hL1 : L1.length = n1) (hn1 : n1 ≤ 1000) (h1 : n1 = 0 ∨ ∃ b off, a1 = some ⟨b, off, none⟩ ∧ Cs w b off L1) (hg1 : ∀ (j : Nat) (hj : j < L1.length), L1[j].hd)
    (hL2 : L2.length = n2) (hn2 : n2 ≤ 1000) (h2 : n2 = 0 ∨ ∃ b off, a2 = some ⟨b, off, none⟩ ∧ Cs w b off L2) (hg2 : ∀ (j : Nat) (hj : j < L2.length), L2[j].hd)
    (hm : mOk (wrL L1) (wrL L2) v u r)
    (e0 : Er w 7) (e1 : Er w 8) (e2 : Er w 9) (e3 : Er w 13) :
    Calls Tryd.prog 9 #[.slice a1 n1 c1, .int .u64 v, .slice a2 n2 c2, .int .u64 u] w fun e w' => e = .returned (.bool r) ∧ Below w.heap.size w w' := by
  have hh1 := headerIn_any a1 n1 c1 L1 v w hL1 hn1 h1 hg1 e0 e1 e2 e3
  have hh2 := fun W (hb : Below w.heap.size w W) => headerIn_any a2 n2 c2 L2 u W hL2 hn2 (h2.imp id (fun ⟨b, off, ha, hc⟩ => ⟨b, off, ha, hc.old hb⟩)) hg2 (e0.old hb) (e1.old hb) (e2.old hb) (e3.old hb)
  have H := Lib.hid (And.intro hh1 (And.intro hh2 hm))
  have hA : (wrL L1).length = n1 := by simp [wrL, hL1]
  have hB : (wrL L2).length = n2 := by simp [wrL, hL2]
  have HL := Lib.hid (And.intro hA hB)
  clear hh1 hh2 hm hL1 hL2 h1 h2 hg1 hg2 e0 e1 e2 e3 hA hB
  go_enter Tryd.func9, Tryd.ntmps9
  go_wp2_with fail
  refine H.out.1.mono ?_
  rintro e w1 ⟨⟨p1, g1, k1, rfl, B1, S1⟩, b1⟩
  go_wp2_with fail
  refine (H.out.2.1 w1 b1).mono ?_
  rintro e w2 ⟨⟨p2, g2, k2, rfl, B2, S2⟩, b2⟩
  have B1' := B1.old b2
  have S1' := S1.old b2
  have b02 := Old.trans b1 b2
  clear B1 S1 b1 b2
  have hma := fun W (hb : Below w2.heap.size w2 W) => matches_any g1 n1 k1 g2 n2 k2 (wrL L1) (wrL L2) v u r W HL.out.1 HL.out.2 hn1 hn2 (S1'.old hb) (S2.old hb) H.out.2.2
  have HM := Lib.hid hma
  have q0 : w2.cell? ⟨p1, 0, none⟩ = some (.slice (some ⟨g1, 0, none⟩) n1 k1) := B1'.cell 0
  have q1 : w2.cell? ⟨p1, 1, none⟩ = some (.int .u64 v) := B1'.cell 1
  have r0 : w2.cell? ⟨p2, 0, none⟩ = some (.slice (some ⟨g2, 0, none⟩) n2 k2) := B2.cell 0
  have r1 : w2.cell? ⟨p2, 1, none⟩ = some (.int .u64 u) := B2.cell 1
  have z1 := B1'.lt
  have z2 := B2.lt
  clear hma S1' S2 B1' B2 H HL
  go_wp2_with fail
  go_region_held3 (fun w' => Below w2.heap.size w2 w' ∧ ∀ b o, b < w2.heap.size → w'.cell? ⟨b, o, none⟩ = w2.cell? ⟨b, o, none⟩) (first | exact stay_drew w2 | exact stay_below ‹_› ‹_› | go_keep) (first | (go_at_call 20; refine (HM.out _ (by first | assumption | exact (‹Below w2.heap.size w2 _ ∧ _›).1)).mono ?_; rintro _ w3 ⟨rfl, b3⟩))
  go_wp2_with fail
  go_ret
  exact ⟨rfl, Old.trans b02 (by first | assumption | exact (‹Below w2.heap.size w2 w3 ∧ _›).1)⟩
end Go.Proofs.YtdfhfaeeejijcaaDoor
