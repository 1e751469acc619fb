/-
  The walk of laws.FnIiGet. Conditions: as the contract says.
-/
import Derived.Test.YtdfhfaeeejijcaaDoorIg
namespace Go.Proofs.YtdfhfaeeejijcaaDoor
open Go.RowKit

/-- From cell 0 of block g on lie the numbers l. -/
def Us (w : World) (g : Nat) (l : List Nat) : Prop := ∀ (i : Nat) (h : i < l.length), w.cell? ⟨g, i, none⟩ = some (.int .u64 (l[i] : Nat))
theorem Us.old {w w' : World} {g : Nat} {l : List Nat} (h : Us w g l) (hb : Below w.heap.size w w') : Us w' g l := fun i hi => (hb.cell (p := ⟨g, i, none⟩) (World.block_lt_of_cell? w _ (h i hi))).trans (h i hi)
theorem own_u64 {w : World} {base : Nat} {e : TypeId} {l : List Nat} {v : Value} (h : w.ownsRow base e 1 v l.length (u64s l)) :
    ∃ a cap, v = .slice a l.length cap ∧ (l = [] ∨ ∃ g, a = some ⟨g, 0, none⟩ ∧ Us w g l) := by
  rcases h.2 with ⟨hv, h0⟩ | ⟨g, cap, cur, hv, hg, hh, hc, _, hsz, htk⟩
  · exact ⟨none, 0, by rw [hv, h0], .inl (List.length_eq_zero_iff.1 h0)⟩
  · refine ⟨_, cap, hv, .inr ⟨g, rfl, fun i hi => ?_⟩⟩
    have h1 : (cur.toList.take (l.length * 1))[i]? = (u64s l)[i]? := by rw [htk]
    rw [List.getElem?_take_of_lt (by omega)] at h1
    simp only [u64s, List.getElem?_map, List.getElem?_eq_getElem hi, Option.map_some, Array.getElem?_toList] at h1
    simp [World.cell?, hh, h1]

set_option maxRecDepth 100000 in
set_option maxHeartbeats 4000000 in
theorem fnIiGet_walk (a : Option Addr) (n c : Nat) (L : List EntL) (x : CidL) (aN : Addr) (w : World) (hL : L.length = n) (hn : n ≤ 9223372036854775807) (hf : ∀ x ∈ L, x.fit) (h : n = 0 ∨ ∃ b off, a = some ⟨b, off, none⟩ ∧ Ens w b off L) (hx : x.digest.length ≤ 9223372036854775807) (E : E4 w) (eN : Ee w 0 aN) :
    Calls Tryd.prog 4 #[.slice a n c, .agg #[.int .u64 (x.version : Nat), .int .u64 (x.codec : Nat), .int .u64 (x.code : Nat), .string ⟨x.digest.toArray⟩]] w fun e w' => e = .returned (.bool true) ∧ Below w.heap.size w w' := by
  have b0 := Old.alloc (Below.refl w.heap.size w) (.cells #[.int .u64 (x.version : Nat), .int .u64 (x.codec : Nat), .int .u64 (x.code : Nat), .string ⟨x.digest.toArray⟩] 26)
  have B0 := Blk.new w 26 #[.int .u64 (x.version : Nat), .int .u64 (x.codec : Nat), .int .u64 (x.code : Nat), .string ⟨x.digest.toArray⟩]
  have hEns := fun W (hb : Below w.heap.size w W) => (h.imp id (fun ⟨b, off, ha, hc⟩ => ⟨b, off, ha, hc.old hb⟩) : n = 0 ∨ ∃ b off, a = some ⟨b, off, none⟩ ∧ Ens W b off L)
  have HZ := Lib.hid (zzFits7_any a n c L _ hL hn hf (hEns _ b0))
  have HF := Lib.hid (And.intro hL (And.intro hn (And.intro hf (And.intro hEns (And.intro hx (And.intro E eN))))))
  have H0 := Lib.hid (And.intro b0 B0)
  clear hL hn hf h hx E eN hEns b0 B0
  go_enter Tryd.func4, Tryd.ntmps4
  go_wp2_with fail
  refine HZ.out.mono ?_
  rintro e w1 ⟨⟨Z, rfl, hZ⟩, b1⟩
  obtain ⟨b0, B0⟩ := H0.out
  have b01 := Old.trans b0 b1
  have B1 := B0.old b1
  clear hZ b0 B0 b1 H0 HZ
  cases Z
  · go_wp2_with fail
    go_ret
    exact ⟨rfl, b01⟩
  have q0 : w1.cell? ⟨w.heap.size, 0, none⟩ = some (.int .u64 (x.version : Nat)) := B1.cell 0
  have q1 : w1.cell? ⟨w.heap.size, 1, none⟩ = some (.int .u64 (x.codec : Nat)) := B1.cell 1
  have q2 : w1.cell? ⟨w.heap.size, 2, none⟩ = some (.int .u64 (x.code : Nat)) := B1.cell 2
  have q3 : w1.cell? ⟨w.heap.size, 3, none⟩ = some (.string ⟨x.digest.toArray⟩) := B1.cell 3
  go_wp2_with fail
  refine (zzFits1_b _ _ _ _ w1 HF.out.2.2.2.2.1).mono ?_
  rintro e w2 ⟨rfl, b2⟩
  have b02 := Old.trans b01 b2
  have B2 := B1.old b2
  obtain ⟨Z1, hZ1⟩ : ∃ Z1, decide (x.digest.length ≤ 2147483647) = Z1 := ⟨_, rfl⟩
  rw [hZ1]
  clear hZ1 q0 q1 q2 q3 B1 b01 b2
  cases Z1
  · go_wp2_with fail
    go_ret
    exact ⟨rfl, b02⟩
  have HS := Lib.hid (stEntries_any a n c L w2 HF.out.1 HF.out.2.1 HF.out.2.2.1 (HF.out.2.2.2.1 w2 b02))
  go_wp2_with fail
  refine HS.out.mono ?_
  rintro e w3 ⟨⟨S, rfl, hS⟩, b3⟩
  have b03 := Old.trans b02 b3
  have B3 := B2.old b3
  have HSS := Lib.hid hS
  clear hS HS b02 B2 b3
  cases S
  · go_wp2_with fail
    go_ret
    exact ⟨rfl, b03⟩
  obtain ⟨hn60, hst⟩ := HSS.out (by first | rfl | trivial)
  have q0 : w3.cell? ⟨w.heap.size, 0, none⟩ = some (.int .u64 (x.version : Nat)) := B3.cell 0
  have q1 : w3.cell? ⟨w.heap.size, 1, none⟩ = some (.int .u64 (x.codec : Nat)) := B3.cell 1
  have q2 : w3.cell? ⟨w.heap.size, 2, none⟩ = some (.int .u64 (x.code : Nat)) := B3.cell 2
  have q3 : w3.cell? ⟨w.heap.size, 3, none⟩ = some (.string ⟨x.digest.toArray⟩) := B3.cell 3
  have HC := Lib.hid (stCid_any x w3 HF.out.2.2.2.2.1)
  have HT := Lib.hid (And.intro hn60 hst)
  clear hn60 hst HSS
  go_wp2_with fail
  refine HC.out.mono ?_
  rintro e w4 ⟨⟨G, rfl, hG⟩, b4⟩
  have b04 := Old.trans b03 b4
  have B4 := B3.old b4
  have HGG := Lib.hid hG
  clear hG HC b03 B3 b4 q0 q1 q2 q3
  cases G
  · go_wp2_with fail
    go_ret
    exact ⟨rfl, b04⟩
  have hxs : x.st := HGG.out (by first | rfl | trivial)
  have q3 : w4.cell? ⟨w.heap.size, 3, none⟩ = some (.string ⟨x.digest.toArray⟩) := B4.cell 3
  have HO := Lib.hid (ofDigest_any a n c L x.digest w4 HF.out.1 (by have := HT.out.1; omega) HF.out.2.2.1 (HF.out.2.2.2.1 w4 b04))
  have HXS := Lib.hid hxs
  clear hxs HGG
  go_wp2_with fail
  refine HO.out.mono ?_
  rintro e w5 ⟨v, rfl, hown, b5⟩
  have b05 := Old.trans b04 b5
  have B5 := B4.old b5
  obtain ⟨va, cap, rfl, hv⟩ := own_u64 hown
  have hol := ofd_len L x.digest
  rw [HF.out.1] at hol
  have hmem := fun m => (ofd_mem (L := L) (d := x.digest) (n := m))
  obtain ⟨O, hOO⟩ : ∃ O, ofd L x.digest = O := ⟨_, rfl⟩
  rw [hOO] at hv hol hmem
  rw [hOO]
  have HV := Lib.hid (And.intro hv hmem)
  have q0 : w5.cell? ⟨w.heap.size, 0, none⟩ = some (.int .u64 (x.version : Nat)) := B5.cell 0
  have q1 : w5.cell? ⟨w.heap.size, 1, none⟩ = some (.int .u64 (x.codec : Nat)) := B5.cell 1
  have q2 : w5.cell? ⟨w.heap.size, 2, none⟩ = some (.int .u64 (x.code : Nat)) := B5.cell 2
  have q3 : w5.cell? ⟨w.heap.size, 3, none⟩ = some (.string ⟨x.digest.toArray⟩) := B5.cell 3
  have HG := Lib.hid (impl_iiGet_any a n c L x aN w5 HF.out.1 (by have := HT.out.1; omega) HT.out.2 (HF.out.2.2.2.1 w5 b05) HXS.out (HF.out.2.2.2.2.2.1.old b05) (HF.out.2.2.2.2.2.2.old b05))
  have hn60 := HT.out.1
  clear hv hmem hOO hown HO b04 B4 b5
  go_wp2_with fail
  refine HG.out.mono ?_
  rintro e w6 ⟨b6, hres⟩
  have b06 := Old.trans b05 b6
  have B6 := B5.old b6
  clear q0 q1 q2 q3
  by_cases hO0 : O.length = 0
  · obtain rfl : O = [] := List.length_eq_zero_iff.1 hO0
    rcases hres with ⟨y, hy, hyd, rfl⟩ | ⟨hno, rfl⟩
    · exact absurd ((HV.out.2 y.off).2 ⟨y, hy, hyd, rfl⟩) (by simp)
    have q0 : w6.cell? ⟨w.heap.size, 0, none⟩ = some (.int .u64 (x.version : Nat)) := B6.cell 0
    have q1 : w6.cell? ⟨w.heap.size, 1, none⟩ = some (.int .u64 (x.codec : Nat)) := B6.cell 1
    have q2 : w6.cell? ⟨w.heap.size, 2, none⟩ = some (.int .u64 (x.code : Nat)) := B6.cell 2
    have q3 : w6.cell? ⟨w.heap.size, 3, none⟩ = some (.string ⟨x.digest.toArray⟩) := B6.cell 3
    have b07 := Old.alloc b06 (.cells #[.int .u64 (x.version : Nat), .int .u64 (x.codec : Nat), .int .u64 (x.code : Nat), .string ⟨x.digest.toArray⟩, .int .u64 3] 38)
    have B7 := B6.alloc (.cells #[.int .u64 (x.version : Nat), .int .u64 (x.codec : Nat), .int .u64 (x.code : Nat), .string ⟨x.digest.toArray⟩, .int .u64 3] 38)
    have N7 := Blk.new w6 38 #[.int .u64 (x.version : Nat), .int .u64 (x.codec : Nat), .int .u64 (x.code : Nat), .string ⟨x.digest.toArray⟩, .int .u64 3]
    obtain ⟨w7, hw7⟩ : ∃ w7, w6.alloc (.cells #[.int .u64 (x.version : Nat), .int .u64 (x.codec : Nat), .int .u64 (x.code : Nat), .string ⟨x.digest.toArray⟩, .int .u64 3] 38) = w7 := ⟨_, rfl⟩
    rw [hw7] at b07 B7 N7
    have u0 : w7.cell? ⟨w.heap.size, 0, none⟩ = some (.int .u64 (x.version : Nat)) := B7.cell 0
    have u1 : w7.cell? ⟨w.heap.size, 1, none⟩ = some (.int .u64 (x.codec : Nat)) := B7.cell 1
    have u2 : w7.cell? ⟨w.heap.size, 2, none⟩ = some (.int .u64 (x.code : Nat)) := B7.cell 2
    have u3 : w7.cell? ⟨w.heap.size, 3, none⟩ = some (.string ⟨x.digest.toArray⟩) := B7.cell 3
    have hE7 : Ens w7 w6.heap.size 0 [⟨x, 3⟩] := fun i hi => by
      obtain rfl : i = 0 := by simpa using hi
      exact ⟨N7.cell 0, N7.cell 1, N7.cell 2, N7.cell 3, N7.cell 4⟩
    have hst7 : ∀ (j : Nat) (hj : j < [(⟨x, 3⟩ : EntL)].length), [(⟨x, 3⟩ : EntL)][j].c.st := fun j hj => by
      have hj0 : j = 0 := by
        have : j < 1 := hj
        omega
      subst hj0
      exact HXS.out
    have HG7 := Lib.hid (impl_iiGet_any (some ⟨w6.heap.size, 0, none⟩) 1 1 [⟨x, 3⟩] x aN w7 rfl (by omega) hst7 (.inr ⟨_, _, rfl, hE7⟩) HXS.out (HF.out.2.2.2.2.2.1.old b07) (HF.out.2.2.2.2.2.2.old b07))
    have HB7 := Lib.hid b07
    clear hno b06 B6 b07 B7 N7 hE7 HG b05 B5 b6 hO0
    go_wp2_with fail
    clear hw7 q0 q1 q2 q3 u0 u1 u2 u3
    refine HG7.out.mono ?_
    rintro e w8 ⟨b8, ⟨y, hy, _, rfl⟩ | ⟨hno, _⟩⟩
    · obtain rfl : y = ⟨x, 3⟩ := by simpa using hy
      have b08 := Old.trans HB7.out b8
      go_wp2_with fail
      go_ret
      exact ⟨rfl, b08⟩
    · exact absurd rfl (hno ⟨x, 3⟩ (by simp))
  · have hOd : decide (O.length = 0) = false := decide_eq_false hO0
    have hOd2 : ((O.length : Int) == 0) = false := by simp; exact fun h => hO0 (by rw [h]; rfl)
    rcases hres with ⟨y, hy, hyd, rfl⟩ | ⟨hno, rfl⟩
    · have hin : y.off ∈ O := (HV.out.2 y.off).2 ⟨y, hy, hyd, rfl⟩
      obtain ⟨gt, hgt⟩ : ∃ gt, y.off = gt := ⟨_, rfl⟩
      rw [hgt] at hin
      rw [hgt]
      obtain ⟨g, rfl, hU⟩ := HV.out.1.resolve_left (fun h => hO0 (by rw [h]; rfl))
      have HU := Lib.hid (And.intro (hU.old b6) (And.intro hin b06))
      clear hin hgt hy hyd hU HG b06 B6 b05 B5 b6 hO0
      go_wp2_with fail
      go_loopw [10, 62] (fun o i wr => ∃ k : Nat, k ≤ O.length ∧ o = .bool (decide (gt ∈ O.take k)) ∧ i = .int .i64 k ∧ wr = w6) (fun _ i _ => O.length - (intOf i).toNat)
      case atStart => exact ⟨0, Nat.zero_le _, by simp, rfl, rfl⟩
      case round =>
        obtain ⟨k, hk, rfl, rfl, rfl⟩ := hrel
        by_cases hkn : k < O.length
        · have c0 := HU.out.1 k hkn
          have htk : ∀ z, z ∈ O.take (k + 1) ↔ z ∈ O.take k ∨ z = O[k] := fun z => by
            rw [List.take_add_one, List.getElem?_eq_getElem hkn, List.mem_append]
            simp only [Option.toList_some, List.mem_singleton]
          obtain ⟨m, hm⟩ : ∃ m, O[k] = m := ⟨_, rfl⟩
          rw [hm] at c0 htk
          have HK := Lib.hid (And.intro (htk gt) hkn)
          have hkI : (k : Int) < (O.length : Int) := by omega
          obtain ⟨Bk, hBk⟩ : ∃ Bk, decide (gt ∈ O.take k) = Bk := ⟨_, rfl⟩
          rw [hBk]
          have HBk := Lib.hid hBk
          clear htk hm hBk
          cases Bk
          · have hin : gt ∉ O.take k := by simpa using HBk.out
            have HIN := Lib.hid hin
            clear hin
            by_cases hmg : m = gt
            · subst hmg
              clear HBk
              go_wp2_with fail
              all_goals go_roundw
              case rel => exact ⟨k + 1, hkn, by rw [decide_eq_true (HK.out.1.2 (.inr rfl))], by go_num, by first | rfl | trivial⟩
              case measure => simp [intOf]; omega
            · have hmg1 : decide (m = gt) = false := decide_eq_false hmg
              have hmg2 : (m == gt) = false := by simpa using hmg
              have hmg3 : ((m : Int) == (gt : Int)) = false := by simp; omega
              have hd : decide (gt ∈ O.take (k + 1)) = false := decide_eq_false (fun h => (HK.out.1.1 h).elim HIN.out (fun e => hmg e.symm))
              have HD := Lib.hid hd
              clear hd HBk
              go_wp2_with fail
              all_goals go_roundw
              case rel => exact ⟨k + 1, hkn, by rw [HD.out], by go_num, by first | rfl | trivial⟩
              case measure => simp [intOf]; omega
          · have hd : decide (gt ∈ O.take (k + 1)) = true := decide_eq_true (HK.out.1.2 (.inl (by simpa using HBk.out)))
            have HD := Lib.hid hd
            clear hd HBk
            go_wp2_with fail
            all_goals go_roundw
            case rel => exact ⟨k + 1, hkn, by rw [HD.out], by go_num, by first | rfl | trivial⟩
            case measure => simp [intOf]; omega
        · have hkn' : k = O.length := by omega
          subst hkn'
          rw [List.take_length, decide_eq_true HU.out.2.1]
          go_wp2_with fail
          go_ret
          exact ⟨rfl, HU.out.2.2⟩
    · obtain ⟨z, hz, hzd, _⟩ := (HV.out.2 O[0]).1 (List.getElem_mem (by omega))
      exact absurd hzd (hno z hz)

theorem fnIiGet_law (a : Option Addr) (n c : Nat) (L : List EntL) (v k u : Int) (d : List UInt8) (aN : Addr) (w : World) (hL : L.length = n) (hn : n ≤ 9223372036854775807) (hf : ∀ x ∈ L, x.fit) (h : n = 0 ∨ ∃ b off, a = some ⟨b, off, none⟩ ∧ Ens w b off L) (hv : 0 ≤ v ∧ v < 18446744073709551616) (hk : 0 ≤ k ∧ k < 18446744073709551616) (hu : 0 ≤ u ∧ u < 18446744073709551616) (hx : d.length ≤ 9223372036854775807) (E : E4 w) (eN : Ee w 0 aN) :
    Calls Tryd.prog 4 #[.slice a n c, .agg #[.int .u64 v, .int .u64 k, .int .u64 u, .string ⟨d.toArray⟩]] w fun e w' => e = .returned (.bool true) ∧ Below w.heap.size w w' := by
  obtain ⟨v', rfl⟩ := Int.eq_ofNat_of_zero_le hv.1
  obtain ⟨k', rfl⟩ := Int.eq_ofNat_of_zero_le hk.1
  obtain ⟨u', rfl⟩ := Int.eq_ofNat_of_zero_le hu.1
  exact fnIiGet_walk a n c L ⟨v', k', u', d⟩ aN w hL hn hf h hx E eN
end Go.Proofs.YtdfhfaeeejijcaaDoor
