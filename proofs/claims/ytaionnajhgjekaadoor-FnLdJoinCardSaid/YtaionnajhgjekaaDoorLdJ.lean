/-
  The walk of laws.FnLdJoin. Conditions: as the contract says.
-/
import Derived.Test.YtaionnajhgjekaaDoorLdO
namespace Go.Proofs.YtaionnajhgjekaaDoor
open Go.RowKit

theorem ldWr_one (S : List (List UInt8)) : ldWr [S.flatten] = ldWr S := by
  rw [ldWr, ldWr]; simp

set_option maxRecDepth 100000 in
set_option maxHeartbeats 4000000 in
theorem fnLdJoin_walk (a : Option Addr) (n c : Nat) (S : List (List UInt8)) (aE aU aO aM aS : Addr) (w : World) (hL : S.length = n) (hn : n ≤ 9223372036854775807) (hf : ∀ s ∈ S, s.length ≤ 9223372036854775807) (h : n = 0 ∨ ∃ b off, a = some ⟨b, off, none⟩ ∧ So w b off S) (E : Errs aE aU aO aM aS w) :
    Calls Tryd.prog 4 #[.slice a n c] w fun e w' => e = .returned (.bool true) ∧ Below w.heap.size w w' := by
  have HF := Lib.hid (And.intro hL (And.intro h E))
  have HZ := Lib.hid (zzFits3_any a n c S w hL hn hf h)
  have HJ := Lib.hid (seJoined_any a n c S w hL hn h)
  clear hL hf h E hn
  go_enter Tryd.func4, Tryd.ntmps4
  go_wp2_with fail
  refine HZ.out.mono ?_
  rintro e w1 ⟨⟨Z, rfl, hZ⟩, rfl⟩
  clear hZ HZ
  cases Z
  · go_wp2_with fail
    go_ret
    exact ⟨rfl, Below.refl _ _⟩
  go_wp2_with fail
  refine HJ.out.mono ?_
  rintro e w2 ⟨hh, b2⟩
  rcases hh with ⟨s, rfl⟩ | ⟨rfl, hn50, hlen⟩
  · go_wp2_with fail
    go_ret
    exact ⟨rfl, b2⟩
  have hall : ∀ s ∈ S, s.length ≤ 16384 := fun s hs => by
    obtain ⟨i, hi, rfl⟩ := List.getElem_of_mem hs
    exact hlen i hi
  have hFl := flat_len S hlen
  rw [HF.out.1] at hFl
  have hF : S.flatten.length ≤ 819200 := by omega
  have hlw := fun W (hb : Below w.heap.size w W) => ldWrite_any a n c S W HF.out.1 (by omega) (HF.out.2.1.imp id (fun ⟨b, off, ha, hc⟩ => ⟨b, off, ha, hc.old hb⟩)) (fun s hs => by have := hall s hs; omega) (by omega)
  have hls := fun W (hb : Below w.heap.size w W) => ldSize_any a n c S W HF.out.1 (by omega) (HF.out.2.1.imp id (fun ⟨b, off, ha, hc⟩ => ⟨b, off, ha, hc.old hb⟩)) (fun s hs => by have := hall s hs; omega) (by omega)
  have hlw1 := fun (g : Nat) W (hb : So W g 0 [S.flatten]) => ldWrite_any (some ⟨g, 0, none⟩) 1 1 [S.flatten] W rfl (by omega) (.inr ⟨_, _, rfl, hb⟩) (fun s hs => by rw [List.mem_singleton.1 hs]; omega) (by simp; simpa using Nat.le_trans hF (by omega))
  have hls1 := fun (g : Nat) W (hb : So W g 0 [S.flatten]) => ldSize_any (some ⟨g, 0, none⟩) 1 1 [S.flatten] W rfl (by omega) (.inr ⟨_, _, rfl, hb⟩) (fun s hs => by rw [List.mem_singleton.1 hs]; omega) (by simp; simpa using Nat.le_trans hF (by omega))
  rw [ldWr_one] at hlw1 hls1
  obtain ⟨L, hL⟩ : ∃ L, ldWr S = L := ⟨_, rfl⟩
  rw [hL] at hlw hls hlw1 hls1
  obtain ⟨F, hFF⟩ : ∃ F, S.flatten = F := ⟨_, rfl⟩
  rw [hFF] at hlw1 hls1
  rw [hFF]
  have H := Lib.hid (And.intro hlw (And.intro hls (And.intro hlw1 hls1)))
  have HE := Lib.hid (fun W (hb : Below w.heap.size w W) => ldOne_any aE aU aO aM aS W (HF.out.2.2.old hb))
  clear hlw hls hlw1 hls1 hL hFF hall hlen hFl hF HF hn50 HJ
  go_wp2_with fail
  refine (H.out.1 w2 b2).mono ?_
  rintro e w3 ⟨rfl, b3⟩
  have b03 := Old.trans b2 b3
  have b04 := Old.alloc b03 (.cells #[.string ⟨F.toArray⟩] 9)
  have B4 := so_one (Blk.new w3 9 #[.string ⟨F.toArray⟩])
  clear b2 b3 b03
  go_wp2_with fail
  generalize w3.alloc (.cells #[.string ⟨F.toArray⟩] 9) = w4 at *
  refine (H.out.2.2.1 _ w4 B4).mono ?_
  rintro e w5 ⟨rfl, b5⟩
  have b05 := Old.trans b04 b5
  clear b04 b5 B4
  go_wp2_with fail
  refine (H.out.2.1 w5 b05).mono ?_
  rintro e w6 ⟨rfl, b6⟩
  have b06 := Old.trans b05 b6
  have b07 := Old.alloc b06 (.cells #[.string ⟨F.toArray⟩] 9)
  have B7 := so_one (Blk.new w6 9 #[.string ⟨F.toArray⟩])
  clear b05 b6 b06
  go_wp2_with fail
  generalize w6.alloc (.cells #[.string ⟨F.toArray⟩] 9) = w7 at *
  refine (H.out.2.2.2 _ w7 B7).mono ?_
  rintro e w8 ⟨rfl, b8⟩
  have b08 := Old.trans b07 b8
  clear b07 b8 B7
  go_wp2_with fail
  refine (HE.out w8 b08).mono ?_
  rintro e w9 ⟨rfl, b9⟩
  go_wp2_with fail
  go_ret
  exact ⟨rfl, Old.trans b08 b9⟩
end Go.Proofs.YtaionnajhgjekaaDoor
