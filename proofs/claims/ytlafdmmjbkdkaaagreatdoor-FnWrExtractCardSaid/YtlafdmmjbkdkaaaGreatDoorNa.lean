/-
  A file of version 1 as an argument: the walks of laws.zzFits4, laws.wrGood, spec.Car1. Conditions: as each contract says.
-/
import Derived.Test.YtlafdmmjbkdkaaaGreatDoorJSp
import Derived.Test.YtlafdmmjbkdkaaaGreatDoorAb
namespace Go.Proofs.YtlafdmmjbkdkaaaGreatDoor
open Go.RowKit

/-- Two slices that a call is handed: identifiers, blocks. -/
structure CarR (a : Option Addr) (n : Nat) (L : List CidL) (a2 : Option Addr) (n2 : Nat) (B : List BlkL) (w : World) : Prop where
  hL : L.length = n
  hC : n = 0 ∨ ∃ b off, a = some ⟨b, off, none⟩ ∧ Cs w b off L
  hB : B.length = n2
  hK : n2 = 0 ∨ ∃ b off, a2 = some ⟨b, off, none⟩ ∧ Bks w b off B
theorem CarR.old {a a2 : Option Addr} {n n2 : Nat} {L : List CidL} {B : List BlkL} {w w' : World} (h : CarR a n L a2 n2 B w) (b : Below w.heap.size w w') : CarR a n L a2 n2 B w' :=
  ⟨h.hL, h.hC.imp id (fun ⟨x, o, e, hc⟩ => ⟨x, o, e, hc.old b⟩), h.hB, h.hK.imp id (fun ⟨x, o, e, hc⟩ => ⟨x, o, e, hc.old b⟩)⟩

/-- The files that the statement speaks of. -/
structure CarOk (L : List CidL) (B : List BlkL) : Prop where
  n : L.length ≤ 50
  n2 : B.length ≤ 50
  L : ∀ x ∈ L, x.tidy ∧ x.digest.length ≤ 200
  B : ∀ y ∈ B, y.c.tidy ∧ y.c.digest.length ≤ 200 ∧ y.data.length ≤ 32768

set_option maxRecDepth 100000 in
set_option maxHeartbeats 2000000 in
theorem zzFits4_any (a : Option Addr) (n c : Nat) (L : List CidL) (a2 : Option Addr) (n2 c2 : Nat) (B : List BlkL) (w : World) (h : CarR a n L a2 n2 B w) (hn : n ≤ 9223372036854775807) (hn2 : n2 ≤ 9223372036854775807) (hf : ∀ x ∈ L, x.fit) (hf2 : ∀ x ∈ B, x.fit) :
    Calls Tryz.prog 4 #[.agg #[.slice a n c, .slice a2 n2 c2]] w fun e w' => (∃ Z, e = .returned (.bool Z)) ∧ Below w.heap.size w w' := by
  have b0 := Old.alloc (Below.refl w.heap.size w) (.cells #[.slice a n c, .slice a2 n2 c2] 25)
  have B0 := Blk.new w 25 #[.slice a n c, .slice a2 n2 c2]
  have H1 := Lib.hid (fun W (hb : Below w.heap.size w W) => zzFits2_any a n c L W h.hL hn hf ((h.old hb).hC))
  have H2 := Lib.hid (fun W (hb : Below w.heap.size w W) => zzFits5_any a2 n2 c2 B W h.hB hn2 hf2 ((h.old hb).hK))
  clear h hf hf2
  obtain ⟨W, hW⟩ : ∃ W, w.alloc (.cells #[.slice a n c, .slice a2 n2 c2] 25) = W := ⟨_, rfl⟩
  rw [hW] at b0 B0
  have q0 : W.cell? ⟨w.heap.size, 0, none⟩ = some (.slice a n c) := B0.cell 0
  go_enter Tryz.func4, Tryz.ntmps4
  go_wp2_with fail
  clear hW
  refine (H1.out W b0).mono ?_
  rintro e w1 ⟨⟨Z, rfl, _⟩, b1⟩
  have b01 := Old.trans b0 b1
  have q1 : w1.cell? ⟨w.heap.size, 1, none⟩ = some (.slice a2 n2 c2) := (B0.old b1).cell 1
  clear b0 b1 B0 q0
  cases Z
  · go_wp2_with fail
    go_ret
    exact ⟨⟨_, rfl⟩, b01⟩
  · go_wp2_with fail
    refine (H2.out w1 b01).mono ?_
    rintro e w2 ⟨⟨Z, rfl, _⟩, b2⟩
    have b02 := Old.trans b01 b2
    clear b01 b2 q1
    cases Z
    · go_wp2_with fail
      go_ret
      exact ⟨⟨_, rfl⟩, b02⟩
    · go_wp2_with fail
      go_ret
      exact ⟨⟨_, rfl⟩, b02⟩

/-- What wrGood comes to. -/
def WgPost (L : List CidL) (B : List BlkL) (w : World) (e : Ending) (w' : World) : Prop :=
  (∃ Z, e = .returned (.bool Z) ∧ (Z = true → CarOk L B)) ∧ Below w.heap.size w w'

set_option maxRecDepth 100000 in
set_option maxHeartbeats 4000000 in
theorem wrGood_any (a : Option Addr) (n c : Nat) (L : List CidL) (a2 : Option Addr) (n2 c2 : Nat) (B : List BlkL) (w : World) (h : CarR a n L a2 n2 B w) (hn : n ≤ 9223372036854775807) (hn2 : n2 ≤ 9223372036854775807) (hf : ∀ x ∈ L, x.fit) (hf2 : ∀ x ∈ B, x.fit) :
    Calls Tryz.prog 5 #[.agg #[.slice a n c, .slice a2 n2 c2]] w (WgPost L B w) := by
  have b0 := Old.alloc (Below.refl w.heap.size w) (.cells #[.slice a n c, .slice a2 n2 c2] 25)
  have B0 := Blk.new w 25 #[.slice a n c, .slice a2 n2 c2]
  obtain ⟨W, hW⟩ : ∃ W, w.alloc (.cells #[.slice a n c, .slice a2 n2 c2] 25) = W := ⟨_, rfl⟩
  rw [hW] at b0 B0
  have q0 : W.cell? ⟨w.heap.size, 0, none⟩ = some (.slice a n c) := B0.cell 0
  have q1 : W.cell? ⟨w.heap.size, 1, none⟩ = some (.slice a2 n2 c2) := B0.cell 1
  have hdl := B0.lt
  have HF := Lib.hid (And.intro h (And.intro hf (And.intro hf2 B0)))
  clear h hf hf2 B0
  by_cases hz : n ≤ 50
  · have hzd : decide ((50 : Int) < (n : Int)) = false := by rw [decide_eq_false_iff_not]; omega
    by_cases hz2 : n2 ≤ 50
    · have hzd2 : decide ((50 : Int) < (n2 : Int)) = false := by rw [decide_eq_false_iff_not]; omega
      clear hn hn2
      go_enter Tryz.func5, Tryz.ntmps5
      go_wp2_with fail
      clear hW q0 q1
      go_loopw [20] (fun i wr => ∃ k : Nat, k ≤ n ∧ i = .int .i64 k ∧ Below w.heap.size w wr ∧ Below W.heap.size W wr ∧ Hid (∀ (j : Nat) (hj : j < L.length), j < k → L[j].tidy ∧ L[j].digest.length ≤ 200)) (fun i _ => n - (intOf i).toNat)
      case atStart => exact ⟨0, Nat.zero_le _, rfl, b0, Below.refl _ _, Lib.hid (fun j _ h => absurd h (Nat.not_lt_zero _))⟩
      case round =>
        obtain ⟨k, hk, rfl, hB, hBW, HG⟩ := hrel
        by_cases hkn : k < n
        · obtain h0 | ⟨b, off, rfl, hcs⟩ := HF.out.1.hC
          · omega
          have hkL : k < L.length := by rw [HF.out.1.hL]; exact hkn
          obtain ⟨c0, c1, c2, c3⟩ := (hcs.old hB) k hkL
          have hfit := HF.out.2.1 L[k] (List.getElem_mem hkL)
          obtain ⟨x, hx⟩ : ∃ x, L[k] = x := ⟨_, rfl⟩
          rw [hx] at c0 c1 c2 c3 hfit
          have hkI : (k : Int) < (n : Int) := by omega
          have HX := Lib.hid (And.intro hfit hx)
          clear hcs hfit hx
          have hB1 := Old.alloc hB (.cells #[.int .u64 (x.version : Nat), .int .u64 (x.codec : Nat), .int .u64 (x.code : Nat), .string ⟨x.digest.toArray⟩] 38)
          have hBW1 := Old.alloc hBW (.cells #[.int .u64 (x.version : Nat), .int .u64 (x.codec : Nat), .int .u64 (x.code : Nat), .string ⟨x.digest.toArray⟩] 38)
          have htd := fun W => tidy_any x.version x.codec x.code x.digest W HX.out.1.2.2.2
          obtain ⟨Z, hZ⟩ : ∃ Z, tidyB x.version x.codec x.code x.digest = Z := ⟨_, rfl⟩
          rw [hZ] at htd
          have HT := Lib.hid (And.intro htd hZ)
          clear htd hZ
          by_cases hd : x.digest.length ≤ 200
          · have hdd : decide ((200 : Int) < (x.digest.length : Int)) = false := by rw [decide_eq_false_iff_not]; omega
            have HD := Lib.hid hd
            clear hd
            go_wp2_with fail
            refine (HT.out.1 _).mono ?_
            rintro e w1 ⟨rfl, b1⟩
            have hB2 := Old.trans hB1 b1
            have hBW2 := Old.trans hBW1 b1
            clear c0 c1 c2 c3 b1 hB1 hBW1 hB hBW
            cases Z
            · go_wp2_with fail
              go_ret
              exact ⟨⟨_, rfl, fun h => by cases h⟩, hB2⟩
            · go_wp2_with fail
              go_roundw
              case rel =>
                refine ⟨k + 1, hkn, by go_num, hB2, hBW2, Lib.hid fun j hj hjk => ?_⟩
                by_cases hjk' : j < k
                · exact HG.out j hj hjk'
                · obtain rfl : j = k := by omega
                  rw [HX.out.2]
                  exact ⟨(tidyB_iff x).1 HT.out.2, HD.out⟩
              case measure => simp [intOf]; omega
          · have hdd : decide ((200 : Int) < (x.digest.length : Int)) = true := by rw [decide_eq_true_eq]; omega
            clear hd
            go_wp2_with fail
            go_ret
            exact ⟨⟨_, rfl, fun h => by cases h⟩, hB1⟩
        · have hkn' : k = n := by omega
          subst hkn'
          have q1 : wr.cell? ⟨w.heap.size, 1, none⟩ = some (.slice a2 n2 c2) := (HF.out.2.2.2.old hBW).cell 1
          go_wp2_with fail
          clear q1
          go_loopw [37] (fun i wr => ∃ k2 : Nat, k2 ≤ n2 ∧ i = .int .i64 k2 ∧ Below w.heap.size w wr ∧ Hid (∀ (j : Nat) (hj : j < B.length), j < k2 → B[j].c.tidy ∧ B[j].c.digest.length ≤ 200 ∧ B[j].data.length ≤ 32768)) (fun i _ => n2 - (intOf i).toNat)
          case atStart => exact ⟨0, Nat.zero_le _, rfl, hB, Lib.hid (fun j _ h => absurd h (Nat.not_lt_zero _))⟩
          case round =>
            clear hB hBW
            obtain ⟨k2, hk2, rfl, hB, HG2⟩ := hrel
            by_cases hkn : k2 < n2
            · obtain h0 | ⟨b, off, rfl, hcs⟩ := HF.out.1.hK
              · omega
              have hkL : k2 < B.length := by rw [HF.out.1.hB]; exact hkn
              obtain ⟨c0, c1, c2, c3, c4⟩ := (hcs.old hB) k2 hkL
              have hfit := HF.out.2.2.1 B[k2] (List.getElem_mem hkL)
              obtain ⟨x, hx⟩ : ∃ x, B[k2] = x := ⟨_, rfl⟩
              rw [hx] at c0 c1 c2 c3 c4 hfit
              have hkI : (k2 : Int) < (n2 : Int) := by omega
              have HX := Lib.hid (And.intro hfit hx)
              clear hcs hfit hx
              have hB1 := Old.alloc hB (.cells #[.int .u64 (x.c.version : Nat), .int .u64 (x.c.codec : Nat), .int .u64 (x.c.code : Nat), .string ⟨x.c.digest.toArray⟩, .string ⟨x.data.toArray⟩] 41)
              have htd := fun W => tidy_any x.c.version x.c.codec x.c.code x.c.digest W HX.out.1.1.2.2.2
              obtain ⟨Z, hZ⟩ : ∃ Z, tidyB x.c.version x.c.codec x.c.code x.c.digest = Z := ⟨_, rfl⟩
              rw [hZ] at htd
              have HT := Lib.hid (And.intro htd hZ)
              clear htd hZ
              by_cases hd : x.c.digest.length ≤ 200
              · have hdd : decide ((200 : Int) < (x.c.digest.length : Int)) = false := by rw [decide_eq_false_iff_not]; omega
                by_cases hd2 : x.data.length ≤ 32768
                · have hdd2 : decide ((32768 : Int) < (x.data.length : Int)) = false := by rw [decide_eq_false_iff_not]; omega
                  have HD := Lib.hid (And.intro hd hd2)
                  clear hd hd2
                  go_wp2_with fail
                  refine (HT.out.1 _).mono ?_
                  rintro e w1 ⟨rfl, b1⟩
                  have hB2 := Old.trans hB1 b1
                  clear c0 c1 c2 c3 c4 b1 hB1 hB
                  cases Z
                  · go_wp2_with fail
                    go_ret
                    exact ⟨⟨_, rfl, fun h => by cases h⟩, hB2⟩
                  · go_wp2_with fail
                    go_roundw
                    case rel =>
                      refine ⟨k2 + 1, hkn, by go_num, hB2, Lib.hid fun j hj hjk => ?_⟩
                      by_cases hjk' : j < k2
                      · exact HG2.out j hj hjk'
                      · obtain rfl : j = k2 := by omega
                        rw [HX.out.2]
                        exact ⟨(tidyB_iff x.c).1 HT.out.2, HD.out⟩
                    case measure => simp [intOf]; omega
                · have hdd2 : decide ((32768 : Int) < (x.data.length : Int)) = true := by rw [decide_eq_true_eq]; omega
                  clear hd hd2
                  go_wp2_with fail
                  go_ret
                  exact ⟨⟨_, rfl, fun h => by cases h⟩, hB1⟩
              · have hdd : decide ((200 : Int) < (x.c.digest.length : Int)) = true := by rw [decide_eq_true_eq]; omega
                clear hd
                go_wp2_with fail
                go_ret
                exact ⟨⟨_, rfl, fun h => by cases h⟩, hB1⟩
            · have hkn' : k2 = n2 := by omega
              subst hkn'
              go_wp2_with fail
              go_ret
              refine ⟨⟨_, rfl, fun _ => ⟨by rw [HF.out.1.hL]; exact hz, by rw [HF.out.1.hB]; exact hz2, ?_, ?_⟩⟩, hB⟩
              · intro x hx
                obtain ⟨j, hj, rfl⟩ := List.mem_iff_getElem.1 hx
                exact HG.out j hj (by have := HF.out.1.hL; omega)
              · intro x hx
                obtain ⟨j, hj, rfl⟩ := List.mem_iff_getElem.1 hx
                exact HG2.out j hj (by have := HF.out.1.hB; omega)
    · have hzd2 : decide ((50 : Int) < (n2 : Int)) = true := by rw [decide_eq_true_eq]; omega
      clear hz2 hn hn2
      go_enter Tryz.func5, Tryz.ntmps5
      go_wp2_with fail
      go_ret
      exact ⟨⟨_, rfl, fun h => by cases h⟩, b0⟩
  · have hzd : decide ((50 : Int) < (n : Int)) = true := by rw [decide_eq_true_eq]; omega
    clear hz hn hn2
    go_enter Tryz.func5, Tryz.ntmps5
    go_wp2_with fail
    go_ret
    exact ⟨⟨_, rfl, fun h => by cases h⟩, b0⟩
end Go.Proofs.YtlafdmmjbkdkaaaGreatDoor
