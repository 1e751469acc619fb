/-
  The walk of laws.FnLdBack. Conditions: as the contract says.
-/
import Derived.Test.YtaionnajhgjekaaDoorLdJ
namespace Go.Proofs.YtaionnajhgjekaaDoor
open Go.RowKit

theorem app_strs (a b : List UInt8) : (⟨a.toArray⟩ : ByteArray) ++ ⟨b.toArray⟩ = ⟨(a ++ b).toArray⟩ := by
  apply ByteArray.ext
  simp

set_option maxRecDepth 100000 in
set_option maxHeartbeats 4000000 in
theorem fnLdBack_walk (a : Option Addr) (n c : Nat) (S : List (List UInt8)) (more : List UInt8) (ze : Bool) (most : Int) (aE aU aO aM aS : Addr) (w : World) (hL : S.length = n) (hn : n ≤ 9223372036854775807) (hf : ∀ s ∈ S, s.length ≤ 9223372036854775807) (h : n = 0 ∨ ∃ b off, a = some ⟨b, off, none⟩ ∧ So w b off S)
    (hmo : more.length ≤ 9223372036854775807) (hm0 : 0 ≤ most) (hm1 : most < 4294967296) (E : Errs aE aU aO aM aS w) :
    Calls Tryd.prog 3 #[.slice a n c, .string ⟨more.toArray⟩, .bool ze, .int .u32 most] w fun e w' => e = .returned (.bool true) ∧ Below w.heap.size w w' := by
  obtain ⟨mo, rfl⟩ := Int.eq_ofNat_of_zero_le hm0
  have HF := Lib.hid (And.intro hL (And.intro h E))
  have HZ := Lib.hid (zzFits3_any a n c S w hL hn hf h)
  have HJ := Lib.hid (seJoined_any a n c S w hL hn h)
  have hmn : mo < 4294967296 := by omega
  clear hL hf h E hn hm0 hm1
  go_enter Tryd.func3, Tryd.ntmps3
  go_wp2_with fail
  refine HZ.out.mono ?_
  rintro e w1 ⟨⟨Z, rfl, hZ⟩, rfl⟩
  clear hZ HZ
  cases Z
  · go_wp2_with fail
    go_ret
    exact ⟨rfl, Below.refl _ _⟩
  by_cases hm14 : more.length ≤ 16384
  case neg =>
    by_cases hm31 : more.length ≤ 2147483647
    · have d1 : decide ((2147483647 : Int) < (more.length : Int)) = false := by simp; omega
      have d2 : decide ((16384 : Int) < (more.length : Int)) = true := by simp; omega
      go_wp2_with fail
      refine HJ.out.mono ?_
      rintro e w2 ⟨hh, b2⟩
      rcases hh with ⟨s, rfl⟩ | ⟨rfl, hn50, hlen⟩
      · go_wp2_with fail
        go_ret
        exact ⟨rfl, b2⟩
      · obtain ⟨F, hFF⟩ : ∃ F, S.flatten = F := ⟨_, rfl⟩
        rw [hFF]
        clear hFF hlen
        by_cases hF0 : F = []
        · subst hF0
          go_wp2_with fail
          go_ret
          exact ⟨rfl, b2⟩
        · have hem : F.isEmpty = false := by cases F with | nil => exact absurd rfl hF0 | cons _ _ => rfl
          go_wp2_with fail
          go_ret
          exact ⟨rfl, b2⟩
    · have d1 : decide ((2147483647 : Int) < (more.length : Int)) = true := by simp; omega
      go_wp2_with fail
      go_ret
      exact ⟨rfl, Below.refl _ _⟩
  have d1 : decide ((2147483647 : Int) < (more.length : Int)) = false := by simp; omega
  have d2 : decide ((16384 : Int) < (more.length : Int)) = false := by simp; omega
  go_wp2_with fail
  refine HJ.out.mono ?_
  rintro e w2 ⟨hh, b2⟩
  rcases hh with ⟨s, rfl⟩ | ⟨rfl, hn50, hlen⟩
  · go_wp2_with fail
    go_ret
    exact ⟨rfl, b2⟩
  have hall : ∀ s ∈ S, s.length ≤ 16384 := fun s hs => by
    obtain ⟨i, hi, rfl⟩ := List.getElem_of_mem hs
    exact hlen i hi
  have hFl := flat_len S hlen
  rw [HF.out.1] at hFl
  have hF8 : S.flatten.length ≤ 819200 := by omega
  have hlw := fun W (hb : Below w.heap.size w W) => ldWrite_any a n c S W HF.out.1 (by omega) (HF.out.2.1.imp id (fun ⟨b, off, ha, hc⟩ => ⟨b, off, ha, hc.old hb⟩)) (fun s hs => by have := hall s hs; omega) (by omega)
  obtain ⟨F, hFF⟩ : ∃ F, S.flatten = F := ⟨_, rfl⟩
  have hR0 : ldWr S = Lib.uvarint F.length ++ F := by rw [ldWr, hFF]
  rw [hFF] at hF8
  rw [hFF]
  by_cases hF0 : F = []
  · subst hF0
    clear hlw hall hlen hFl hFF hR0
    go_wp2_with fail
    go_ret
    exact ⟨rfl, b2⟩
  have hem : F.isEmpty = false := by cases F with | nil => exact absurd rfl hF0 | cons _ _ => rfl
  have hF1 : 1 ≤ F.length := by cases F with | nil => exact absurd rfl hF0 | cons _ _ => simp
  have hul := Lib.uvarint_length 4 F.length (Nat.lt_of_le_of_lt hF8 (by decide))
  have hrd := uvRd_uvarint F.length (F ++ more) (by omega)
  rw [← List.append_assoc, ← hR0] at hrd
  have hdr : ((ldWr S ++ more).drop (Lib.uvarint F.length).length).take F.length = F := by
    rw [hR0, List.append_assoc, List.drop_left, List.take_left]
  have hRl : (ldWr S).length = (Lib.uvarint F.length).length + F.length := by rw [hR0, List.length_append]
  obtain ⟨u, hu⟩ : ∃ u, (Lib.uvarint F.length).length = u := ⟨_, rfl⟩
  rw [hu] at hul hrd hdr hRl
  obtain ⟨R, hR⟩ : ∃ R, ldWr S = R := ⟨_, rfl⟩
  rw [hR] at hrd hdr hRl hlw
  have hLl : (R ++ more).length ≤ 1000000000 := by rw [List.length_append]; omega
  have hldr := fun W (hb : Below w.heap.size w W) => ldRead_any F.length u mo false ze (R ++ more) aE aU aO aM aS W hLl (by omega) ⟨hrd, hF1, by omega⟩ (fun _ _ => by rw [List.length_append]; omega) (HF.out.2.2.old hb).eE (HF.out.2.2.old hb).eU (HF.out.2.2.old hb).eO (HF.out.2.2.old hb).eM (HF.out.2.2.old hb).eS (HF.out.2.2.old hb).hE (HF.out.2.2.old hb).hS (HF.out.2.2.old hb).nS
  have hR9 : R.length ≤ 1000000 := by omega
  have H := Lib.hid (And.intro hlw (And.intro hldr (And.intro hdr hRl)))
  have HE := Lib.hid (fun W (hb : Below w.heap.size w W) => ldOne_any aE aU aO aM aS W (HF.out.2.2.old hb))
  have happ := app_strs
  clear hlw hldr hdr hRl hrd hR hu hR0 hall hlen hFl hFF HF hn50 HJ hF0 hLl hul
  go_wp2_with fail
  refine (H.out.1 w2 b2).mono ?_
  rintro e w3 ⟨rfl, b3⟩
  have b03 := Old.trans b2 b3
  clear b2 b3
  go_wp2_with fail
  refine (H.out.2.1 w3 b03).mono ?_
  rintro e w4 ⟨he, b4⟩
  have b04 := Old.trans b03 b4
  clear b03 b4
  rw [if_neg (by simp)] at he
  by_cases hb : F.length ≤ mo
  · rw [if_pos hb, H.out.2.2.1] at he
    subst he
    have hbd : decide (mo < F.length) = false := by simp; omega
    have hle : ((u + F.length : Nat) : Int) = (R.length : Int) := by have := H.out.2.2.2; omega
    go_wp2_with fail
    go_ret
    exact ⟨rfl, b04⟩
  · rw [if_neg hb] at he
    obtain ⟨q, rfl⟩ := he
    have hbd : decide (mo < F.length) = true := by simp; omega
    go_wp2_with fail
    refine (HE.out w4 b04).mono ?_
    rintro e w5 ⟨rfl, b5⟩
    go_wp2_with fail
    go_ret
    exact ⟨rfl, Old.trans b04 b5⟩
end Go.Proofs.YtaionnajhgjekaaDoor
