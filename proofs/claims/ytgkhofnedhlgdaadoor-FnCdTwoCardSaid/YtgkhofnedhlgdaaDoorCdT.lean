/-
  The walk of laws.FnCdTwo. Conditions: as the contract says.
-/
import Derived.Test.YtgkhofnedhlgdaaDoorCdB
import Derived.Test.YtgkhofnedhlgdaaDoorZz
namespace Go.Proofs.YtgkhofnedhlgdaaDoor
open Go.RowKit

/-- The bytes of identifiers, one behind the other. -/
def wrs (L : List CidL) : List UInt8 := (L.map CidL.wr).flatten
theorem wrs_cons (x : CidL) (L : List CidL) : wrs (x :: L) = x.wr ++ wrs L := rfl
theorem wrs_take (L : List CidL) (k : Nat) (h : k < L.length) : wrs (L.take (k + 1)) = wrs (L.take k) ++ L[k].wr := by
  rw [List.take_add_one, List.getElem?_eq_getElem h]
  simp only [wrs, Option.toList_some, List.map_append, List.flatten_append, List.map_cons, List.map_nil, List.flatten_cons, List.flatten_nil, List.append_nil]
theorem wrs_drop (L : List CidL) (k : Nat) (h : k < L.length) : wrs (L.drop k) = L[k].wr ++ wrs (L.drop (k + 1)) := by
  rw [List.drop_eq_getElem_cons h, wrs_cons]
theorem wrs_len (L : List CidL) (h : ∀ x ∈ L, x.wr.length ≤ 5000) : (wrs L).length ≤ L.length * 5000 := by
  induction L with
  | nil => simp [wrs]
  | cons x L ih =>
    rw [wrs_cons, List.length_append, List.length_cons]
    have := h x (by simp)
    have := ih (fun y hy => h y (by simp [hy]))
    omega

set_option maxRecDepth 100000 in
set_option maxHeartbeats 4000000 in
theorem fnCdTwo_walk (a : Option Addr) (n c : Nat) (L : List CidL) (aE aU aO aM : Addr) (w : World) (hL : L.length = n) (hn : n ≤ 9223372036854775807) (hf : ∀ x ∈ L, x.fit) (h : n = 0 ∨ ∃ b off, a = some ⟨b, off, none⟩ ∧ Cs w b off L)
    (eE : Ee w 0 aE) (eU : Ee w 1 aU) (eO : Ee w 2 aO) (eM : Ee w 3 aM)
    (e2 : Er w 5) (e3 : Er w 7) :
    Calls Tryd.prog 7 #[.slice a n c] w fun e w' => e = .returned (.bool true) ∧ Below w.heap.size w w' := by
  have HF := Lib.hid (And.intro hL (And.intro hf h))
  have HE := Lib.hid (And.intro eE (And.intro eU (And.intro eO (And.intro eM (And.intro e2 e3)))))
  have HZ := Lib.hid (zzFits2_any a n c L w hL hn hf h)
  clear hL hf h eE eU eO eM e2 e3 hn
  go_enter Tryd.func7, Tryd.ntmps7
  go_wp2_with fail
  refine HZ.out.mono ?_
  rintro e w1 ⟨⟨Z, rfl, hZ⟩, b1⟩
  cases Z
  · clear hZ
    go_wp2_with fail
    go_ret
    exact ⟨rfl, b1⟩
  clear hZ HZ
  by_cases h50 : n ≤ 50
  · have h50d : decide ((50 : Int) < (n : Int)) = false := by simp; omega
    go_wp2_with fail
    go_loopw [26] (fun i wr => ∃ k : Nat, k ≤ n ∧ i = .int .i64 k ∧ Below w.heap.size w wr ∧ ∀ (j : Nat) (hj : j < L.length), j < k → L[j].tidy ∧ L[j].digest.length ≤ 4096) (fun i _ => n - (intOf i).toNat)
    case atStart => exact ⟨0, Nat.zero_le _, rfl, b1, fun j _ h => absurd h (Nat.not_lt_zero _)⟩
    case round =>
      obtain ⟨k, hk, rfl, hB, hG⟩ := hrel
      have HG := Lib.hid hG
      clear hG
      by_cases hkn : k < n
      · obtain h0 | ⟨b, off, rfl, hcs⟩ := HF.out.2.2
        · omega
        · have hkL : k < L.length := by rw [HF.out.1]; exact hkn
          obtain ⟨c0, c1, c2, c3⟩ := (hcs.old hB) k hkL
          have hfit := HF.out.2.1 L[k] (List.getElem_mem hkL)
          obtain ⟨x, hx⟩ : ∃ x, L[k] = x := ⟨_, rfl⟩
          rw [hx] at c0 c1 c2 c3 hfit
          have hkI : (k : Int) < (n : Int) := by omega
          have HX := Lib.hid (And.intro hfit hx)
          clear hcs hfit hx
          have hB1 := Old.alloc hB (.cells #[.int .u64 (x.version : Nat), .int .u64 (x.codec : Nat), .int .u64 (x.code : Nat), .string ⟨x.digest.toArray⟩] 30)
          go_wp2_with fail
          refine (cdGood_any _ _ _ _ _ HX.out.1.2.2.2).mono ?_
          rintro e w2 ⟨rfl, b2⟩
          have hB2 := Old.trans hB1 b2
          obtain ⟨G, hGG⟩ : ∃ G, (decide (x.digest.length ≤ 4096) && tidyB x.version x.codec x.code x.digest) = G := ⟨_, rfl⟩
          rw [hGG]
          have HGG := Lib.hid hGG
          clear hGG c0 c1 c2 c3
          cases G
          · go_wp2_with fail
            go_ret
            exact ⟨rfl, hB2⟩
          · go_wp2_with fail
            all_goals go_roundw
            case rel =>
              refine ⟨k + 1, hkn, by go_num, hB2, fun j hj hjk => ?_⟩
              by_cases hjk' : j < k
              · exact HG.out j hj hjk'
              · obtain rfl : j = k := by omega
                have hg := HGG.out
                rw [Bool.and_eq_true] at hg
                rw [HX.out.2]
                exact ⟨(tidyB_iff x).1 hg.2, by simpa using hg.1⟩
            case measure => simp [intOf]; omega
      · have hkn' : n = k := by omega
        have HT := Lib.hid (show ∀ (j : Nat) (hj : j < L.length), L[j].tidy ∧ L[j].digest.length ≤ 4096 from fun j hj => HG.out j hj (by rw [HF.out.1] at hj; omega))
        subst hkn'
        clear HG hk hkn b1
        have hkk : decide ((n : Int) < (n : Int)) = false := by simp
        have HW := Lib.hid (show ∀ (j : Nat), j ≤ L.length → (wrs (L.take j)).length ≤ 250000 ∧ (wrs (L.drop j)).length ≤ 250000 from fun j hj => by
          have hx : ∀ x ∈ L, x.wr.length ≤ 5000 := fun x hxm => by
            obtain ⟨q, hq, rfl⟩ := List.getElem_of_mem hxm
            exact (wr_len (HT.out q hq).1 (HT.out q hq).2).1
          have h1 := wrs_len (L.take j) (fun x hxm => hx x (List.mem_of_mem_take hxm))
          have h2 := wrs_len (L.drop j) (fun x hxm => hx x (List.mem_of_mem_drop hxm))
          have hLn := HF.out.1
          rw [List.length_take] at h1
          rw [List.length_drop] at h2
          omega)
        go_wp2_with fail
        go_loopw [36, 5] (fun i s wr => ∃ k : Nat, k ≤ n ∧ i = .int .i64 k ∧ s = .string ⟨(wrs (L.take k)).toArray⟩ ∧ Below w.heap.size w wr) (fun i _ _ => n - (intOf i).toNat)
        case atStart => exact ⟨0, Nat.zero_le _, rfl, rfl, hB⟩
        case round =>
          clear hB
          obtain ⟨k, hk, rfl, rfl, hB⟩ := hrel
          by_cases hkn : k < n
          · have hkI : (k : Int) < (n : Int) := by omega
            obtain h0 | ⟨b, off, rfl, hcs⟩ := HF.out.2.2
            · omega
            have hkL : k < L.length := by rw [HF.out.1]; exact hkn
            obtain ⟨c0, c1, c2, c3⟩ := (hcs.old hB) k hkL
            have htd := HT.out k hkL
            have htk := wrs_take L k hkL
            have hl1 := (HW.out k (Nat.le_of_lt hkL)).1
            obtain ⟨x, hx⟩ : ∃ x, L[k] = x := ⟨_, rfl⟩
            rw [hx] at c0 c1 c2 c3 htd htk
            have hB1 := Old.alloc hB (.cells #[.int .u64 (x.version : Nat), .int .u64 (x.codec : Nat), .int .u64 (x.code : Nat), .string ⟨x.digest.toArray⟩] 30)
            have hcb := fun W (hb : Below w.heap.size w W) => cdBytes_any x W htd.1 htd.2 (HE.out.2.2.1.er.old hb) (HE.out.2.2.2.1.er.old hb) (HE.out.2.2.2.2.1.old hb) (HE.out.2.2.2.2.2.old hb)
            have hl2 := (wr_len htd.1 htd.2).1
            obtain ⟨R, hR⟩ : ∃ R, x.wr = R := ⟨_, rfl⟩
            obtain ⟨S, hS⟩ : ∃ S, wrs (L.take k) = S := ⟨_, rfl⟩
            rw [hR] at hcb hl2 htk
            rw [hS] at hl1 htk
            rw [hS]
            have HX := Lib.hid (And.intro hcb htk)
            have happ := ba_app
            clear hcs hx htd hcb htk hR hS
            go_wp2_with fail
            refine (HX.out.1 _ hB1).mono ?_
            rintro e w2 ⟨rfl, b2⟩
            have hB2 := Old.trans hB1 b2
            clear c0 c1 c2 c3
            go_wp2_with fail
            all_goals go_roundw
            case rel => exact ⟨k + 1, hkn, by go_num, by rw [HX.out.2], hB2⟩
            case measure => simp [intOf]; omega
          · have hkn' : n = k := by omega
            subst hkn'
            rw [List.take_of_length_le (by rw [HF.out.1]; exact Nat.le_refl _)]
            clear hk hkn
            go_wp2_with fail
            go_loopw [53, 5] (fun i s wr => ∃ k : Nat, k ≤ n ∧ i = .int .i64 k ∧ s = .string ⟨(wrs (L.drop k)).toArray⟩ ∧ Below w.heap.size w wr) (fun i _ _ => n - (intOf i).toNat)
            case atStart => exact ⟨0, Nat.zero_le _, rfl, by rw [List.drop_zero], hB⟩
            case round =>
              clear hB
              obtain ⟨k, hk, rfl, rfl, hB⟩ := hrel
              by_cases hkn : k < n
              · have hkI : (k : Int) < (n : Int) := by omega
                obtain h0 | ⟨b, off, rfl, hcs⟩ := HF.out.2.2
                · omega
                have hkL : k < L.length := by rw [HF.out.1]; exact hkn
                obtain ⟨c0, c1, c2, c3⟩ := (hcs.old hB) k hkL
                have htd := HT.out k hkL
                have htk := wrs_drop L k hkL
                have hl1 := (HW.out k (Nat.le_of_lt hkL)).2
                obtain ⟨x, hx⟩ : ∃ x, L[k] = x := ⟨_, rfl⟩
                rw [hx] at c0 c1 c2 c3 htd htk
                have hB1 := Old.alloc hB (.cells #[.int .u64 (x.version : Nat), .int .u64 (x.codec : Nat), .int .u64 (x.code : Nat), .string ⟨x.digest.toArray⟩] 30)
                have hrd := cdRd_wr x (wrs (L.drop (k + 1))) htd.1 (by omega)
                rw [← htk] at hrd
                have hlw : x.wr.length ≤ (wrs (L.drop k)).length := by rw [htk, List.length_append]; omega
                have hdr : (wrs (L.drop k)).drop x.wr.length = wrs (L.drop (k + 1)) := by rw [htk, List.drop_left]
                obtain ⟨S, hS⟩ : ∃ S, wrs (L.drop k) = S := ⟨_, rfl⟩
                rw [hS] at hl1 hrd hlw hdr
                rw [hS]
                have hrd1 := fun W (hb : Below w.heap.size w W) => cdRead_ok S x x.wr.length W (by omega) hrd htd.2 (HE.out.2.2.1.er.old hb) (HE.out.2.2.2.1.er.old hb) (HE.out.2.2.2.2.1.old hb) (HE.out.2.2.2.2.2.old hb)
                have hrd2 := fun W (hb : Below w.heap.size w W) => cdReader_ok S x x.wr.length aE aU aO aM W (by omega) hrd htd.2 (HE.out.1.old hb) (HE.out.2.1.old hb) (HE.out.2.2.1.old hb) (HE.out.2.2.2.1.old hb) (HE.out.2.2.2.2.1.old hb) (HE.out.2.2.2.2.2.old hb)
                obtain ⟨r, hr⟩ : ∃ r, x.wr.length = r := ⟨_, rfl⟩
                rw [hr] at hrd1 hrd2 hlw hdr
                have HX := Lib.hid (And.intro hrd1 (And.intro hrd2 hdr))
                have hlwI : (r : Int) ≤ (S.length : Int) := by omega
                have hlwN : decide ((S.length : Int) < (r : Int)) = false := by simp; omega
                have C1 := Blk.new wr 30 #[.int .u64 (x.version : Nat), .int .u64 (x.codec : Nat), .int .u64 (x.code : Nat), .string ⟨x.digest.toArray⟩]
                clear hcs hx htd hrd hrd1 hrd2 htk hS hr hdr
                go_wp2_with fail
                clear c0 c1 c2 c3
                generalize wr.alloc (.cells #[.int .u64 (x.version : Nat), .int .u64 (x.codec : Nat), .int .u64 (x.code : Nat), .string ⟨x.digest.toArray⟩] 30) = W1 at *
                refine (HX.out.1 W1 hB1).mono ?_
                rintro e w2 ⟨rfl, b2⟩
                have hB2 := Old.trans hB1 b2
                have C2 := C1.old b2
                have hB3 := Old.alloc hB2 (.cells #[.int .u64 (x.version : Nat), .int .u64 (x.codec : Nat), .int .u64 (x.code : Nat), .string ⟨x.digest.toArray⟩] 30)
                have C3 := C2.alloc (.cells #[.int .u64 (x.version : Nat), .int .u64 (x.codec : Nat), .int .u64 (x.code : Nat), .string ⟨x.digest.toArray⟩] 30)
                have A3 := Blk.new w2 30 #[.int .u64 (x.version : Nat), .int .u64 (x.codec : Nat), .int .u64 (x.code : Nat), .string ⟨x.digest.toArray⟩]
                clear C1 hB1 b2 C2 hB2
                go_wp2_with fail
                generalize w2.alloc (.cells #[.int .u64 (x.version : Nat), .int .u64 (x.codec : Nat), .int .u64 (x.code : Nat), .string ⟨x.digest.toArray⟩] 30) = w3 at *
                refine (HX.out.2.1 w3 hB3).mono ?_
                rintro e w4 ⟨rfl, b4⟩
                have hB4 := Old.trans hB3 b4
                have hB5 := Old.alloc hB4 (.cells #[.int .u64 (x.version : Nat), .int .u64 (x.codec : Nat), .int .u64 (x.code : Nat), .string ⟨x.digest.toArray⟩] 30)
                have C5 := (C3.old b4).alloc (.cells #[.int .u64 (x.version : Nat), .int .u64 (x.codec : Nat), .int .u64 (x.code : Nat), .string ⟨x.digest.toArray⟩] 30)
                have A5 := (A3.old b4).alloc (.cells #[.int .u64 (x.version : Nat), .int .u64 (x.codec : Nat), .int .u64 (x.code : Nat), .string ⟨x.digest.toArray⟩] 30)
                have D5 := Blk.new w4 30 #[.int .u64 (x.version : Nat), .int .u64 (x.codec : Nat), .int .u64 (x.code : Nat), .string ⟨x.digest.toArray⟩]
                obtain ⟨W5, hW5⟩ : ∃ W5, w4.alloc (.cells #[.int .u64 (x.version : Nat), .int .u64 (x.codec : Nat), .int .u64 (x.code : Nat), .string ⟨x.digest.toArray⟩] 30) = W5 := ⟨_, rfl⟩
                rw [hW5] at hB5 C5 A5 D5
                have p0 : W5.cell? ⟨wr.heap.size, 0, none⟩ = some (.int .u64 (x.version : Nat)) := C5.cell 0
                have p1 : W5.cell? ⟨wr.heap.size, 1, none⟩ = some (.int .u64 (x.codec : Nat)) := C5.cell 1
                have p2 : W5.cell? ⟨wr.heap.size, 2, none⟩ = some (.int .u64 (x.code : Nat)) := C5.cell 2
                have p3 : W5.cell? ⟨wr.heap.size, 3, none⟩ = some (.string ⟨x.digest.toArray⟩) := C5.cell 3
                have q0 : W5.cell? ⟨w2.heap.size, 0, none⟩ = some (.int .u64 (x.version : Nat)) := A5.cell 0
                have q1 : W5.cell? ⟨w2.heap.size, 1, none⟩ = some (.int .u64 (x.codec : Nat)) := A5.cell 1
                have q2 : W5.cell? ⟨w2.heap.size, 2, none⟩ = some (.int .u64 (x.code : Nat)) := A5.cell 2
                have q3 : W5.cell? ⟨w2.heap.size, 3, none⟩ = some (.string ⟨x.digest.toArray⟩) := A5.cell 3
                have u0 : W5.cell? ⟨w4.heap.size, 0, none⟩ = some (.int .u64 (x.version : Nat)) := D5.cell 0
                have u1 : W5.cell? ⟨w4.heap.size, 1, none⟩ = some (.int .u64 (x.codec : Nat)) := D5.cell 1
                have u2 : W5.cell? ⟨w4.heap.size, 2, none⟩ = some (.int .u64 (x.code : Nat)) := D5.cell 2
                have u3 : W5.cell? ⟨w4.heap.size, 3, none⟩ = some (.string ⟨x.digest.toArray⟩) := D5.cell 3
                clear C3 A3 hB3 hB4 b4
                go_wp2_with fail
                all_goals go_roundw
                case rel => exact ⟨k + 1, hkn, by go_num, by rw [str_from S rfl, HX.out.2.2], hB5⟩
                case measure => simp [intOf]; omega
              · have hkn' : n = k := by omega
                subst hkn'
                rw [List.drop_of_length_le (by rw [HF.out.1]; exact Nat.le_refl _)]
                clear hk hkn
                have hw0 : wrs [] = [] := rfl
                rw [hw0]
                go_wp2_with fail
                refine (cdOne_any wr (HE.out.2.2.1.er.old hB) (HE.out.2.2.2.1.er.old hB) (HE.out.2.2.2.2.1.old hB) (HE.out.2.2.2.2.2.old hB)).mono ?_
                rintro e w2 ⟨rfl, b2⟩
                go_wp2_with fail
                go_ret
                exact ⟨rfl, Old.trans hB b2⟩
  · have h50d : decide ((50 : Int) < (n : Int)) = true := by simp; omega
    go_wp2_with fail
    go_ret
    exact ⟨rfl, b1⟩
end Go.Proofs.YtgkhofnedhlgdaaDoor
