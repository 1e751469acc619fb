/-
  The walk of laws.FnSeTwo. Conditions: as the contract says.
-/
import Derived.Test.YtaionnajhgjekaaDoorSf
import Derived.Test.YtaionnajhgjekaaDoorSg
namespace Go.Proofs.YtaionnajhgjekaaDoor
open Go.RowKit

/-- The sections of blocks, one behind the other. -/
def secs (L : List BlkL) : List UInt8 := (L.map BlkL.sec).flatten
theorem secs_cons (x : BlkL) (L : List BlkL) : secs (x :: L) = x.sec ++ secs L := rfl
theorem secs_take (L : List BlkL) (k : Nat) (h : k < L.length) : secs (L.take (k + 1)) = secs (L.take k) ++ L[k].sec := by
  rw [List.take_add_one, List.getElem?_eq_getElem h]
  simp only [secs, Option.toList_some, List.map_append, List.flatten_append, List.map_cons, List.map_nil, List.flatten_cons, List.flatten_nil, List.append_nil]
theorem secs_drop (L : List BlkL) (k : Nat) (h : k < L.length) : secs (L.drop k) = L[k].sec ++ secs (L.drop (k + 1)) := by
  rw [List.drop_eq_getElem_cons h, secs_cons]
theorem secs_len (L : List BlkL) (h : ∀ x ∈ L, x.sec.length ≤ 50000) : (secs L).length ≤ L.length * 50000 := by
  induction L with
  | nil => simp [secs]
  | cons x L ih =>
    rw [secs_cons, List.length_append, List.length_cons]
    have := h x (by simp)
    have := ih (fun y hy => h y (by simp [hy]))
    omega
theorem sec_len {y : BlkL} (h : y.good) : y.sec.length ≤ 50000 := by
  have h1 := wr_len2 h.2.1 (by have := h.2.2; omega)
  have h2 := Lib.uvarint_length64 (x := y.c.wr.length + y.data.length) (by have := h.1; omega)
  have h3 := h.1
  unfold BlkL.sec
  simp only [List.length_append]
  omega

theorem ba_app2 (a b : List UInt8) : (⟨a.toArray⟩ : ByteArray) ++ ⟨b.toArray⟩ = ⟨(a ++ b).toArray⟩ := by
  apply ByteArray.ext
  simp

/-- One block's cells as one row. -/
theorem blk5 {w : World} {g : Nat} {t : TypeId} {y : BlkL} (h : Blk w g t y.val) : w.cell? ⟨g, 0, none⟩ = some (.int .u64 (y.c.version : Nat)) ∧ w.cell? ⟨g, 1, none⟩ = some (.int .u64 (y.c.codec : Nat)) ∧ w.cell? ⟨g, 2, none⟩ = some (.int .u64 (y.c.code : Nat)) ∧ w.cell? ⟨g, 3, none⟩ = some (.string ⟨y.c.digest.toArray⟩) ∧ w.cell? ⟨g, 4, none⟩ = some (.string ⟨y.data.toArray⟩) :=
  ⟨h.cell 0, h.cell 1, h.cell 2, h.cell 3, h.cell 4⟩

set_option maxRecDepth 100000 in
set_option maxHeartbeats 4000000 in
theorem fnSeTwo_walk (a : Option Addr) (n c : Nat) (L : List BlkL) (aE aU aO aM aS : Addr) (w : World) (hL : L.length = n) (hn : n ≤ 9223372036854775807) (hf : ∀ x ∈ L, x.fit) (h : n = 0 ∨ ∃ b off, a = some ⟨b, off, none⟩ ∧ Bks w b off L)
    (E : Errs2 aE aU aO aM aS w) :
    Calls Tryd.prog 5 #[.slice a n c] w fun e w' => e = .returned (.bool true) ∧ Below w.heap.size w w' := by
  have HF := Lib.hid (And.intro hL (And.intro hf h))
  have HE := Lib.hid E
  have HZ := Lib.hid (zzFits5_any a n c L w hL hn hf h)
  clear hL hf h E hn
  go_enter Tryd.func5, Tryd.ntmps5
  go_wp2_with fail
  refine HZ.out.mono ?_
  rintro e w1 ⟨⟨Z, rfl, hZ⟩, b1⟩
  cases Z
  · clear hZ
    go_wp2_with fail
    go_ret
    exact ⟨rfl, b1⟩
  clear hZ HZ
  by_cases h50 : n ≤ 30
  · have h50d : decide ((30 : Int) < (n : Int)) = false := by simp; omega
    go_wp2_with fail
    go_loopw [3] (fun i wr => ∃ k : Nat, k ≤ n ∧ i = .int .i64 k ∧ Below w.heap.size w wr ∧ ∀ (j : Nat) (hj : j < L.length), j < k → L[j].good) (fun i _ => n - (intOf i).toNat)
    case atStart => exact ⟨0, Nat.zero_le _, rfl, b1, fun j _ h => absurd h (Nat.not_lt_zero _)⟩
    case round =>
      obtain ⟨k, hk, rfl, hB, hG⟩ := hrel
      have HG := Lib.hid hG
      clear hG
      by_cases hkn : k < n
      · obtain h0 | ⟨b, off, rfl, hcs⟩ := HF.out.2.2
        · omega
        · have hkL : k < L.length := by rw [HF.out.1]; exact hkn
          obtain ⟨c0, c1, c2, c3, c4⟩ := (hcs.old hB) k hkL
          have hfit := HF.out.2.1 L[k] (List.getElem_mem hkL)
          obtain ⟨x, hx⟩ : ∃ x, L[k] = x := ⟨_, rfl⟩
          rw [hx] at c0 c1 c2 c3 c4 hfit
          have hkI : (k : Int) < (n : Int) := by omega
          have HX := Lib.hid (And.intro (fun W => seGood_any x W hfit) hx)
          clear hcs hfit hx
          go_wp2_with fail
          refine (HX.out.1 _).mono ?_
          rintro e w2 ⟨⟨G, rfl, hG⟩, b2⟩
          have hB2 := Old.trans hB b2
          have HGG := Lib.hid hG
          clear hG c0 c1 c2 c3 c4
          cases G
          · go_wp2_with fail
            go_ret
            exact ⟨rfl, hB2⟩
          · go_wp2_with fail
            all_goals go_roundw
            case rel =>
              refine ⟨k + 1, hkn, by go_num, hB2, fun j hj hjk => ?_⟩
              by_cases hjk' : j < k
              · exact HG.out j hj hjk'
              · obtain rfl : j = k := by omega
                rw [HX.out.2]
                exact HGG.out (by first | rfl | trivial)
            case measure => simp [intOf]; omega
      · have hkn' : n = k := by omega
        have HT := Lib.hid (show ∀ (j : Nat) (hj : j < L.length), L[j].good from fun j hj => HG.out j hj (by rw [HF.out.1] at hj; omega))
        subst hkn'
        clear HG hk hkn b1
        have hkk : decide ((n : Int) < (n : Int)) = false := by simp
        have HW := Lib.hid (show ∀ (j : Nat), j ≤ L.length → (secs (L.take j)).length ≤ 1500000 ∧ (secs (L.drop j)).length ≤ 1500000 from fun j hj => by
          have hx : ∀ x ∈ L, x.sec.length ≤ 50000 := fun x hxm => by
            obtain ⟨q, hq, rfl⟩ := List.getElem_of_mem hxm
            exact sec_len (HT.out q hq)
          have h1 := secs_len (L.take j) (fun x hxm => hx x (List.mem_of_mem_take hxm))
          have h2 := secs_len (L.drop j) (fun x hxm => hx x (List.mem_of_mem_drop hxm))
          have hLn := HF.out.1
          rw [List.length_take] at h1
          rw [List.length_drop] at h2
          omega)
        go_wp2_with fail
        go_loopw [35, 4] (fun i s wr => ∃ k : Nat, k ≤ n ∧ i = .int .i64 k ∧ s = .string ⟨(secs (L.take k)).toArray⟩ ∧ Below w.heap.size w wr) (fun i _ _ => n - (intOf i).toNat)
        case atStart => exact ⟨0, Nat.zero_le _, rfl, rfl, hB⟩
        case round =>
          clear hB
          obtain ⟨k, hk, rfl, rfl, hB⟩ := hrel
          by_cases hkn : k < n
          · have hkI : (k : Int) < (n : Int) := by omega
            obtain h0 | ⟨b, off, rfl, hcs⟩ := HF.out.2.2
            · omega
            have hkL : k < L.length := by rw [HF.out.1]; exact hkn
            obtain ⟨c0, c1, c2, c3, c4⟩ := (hcs.old hB) k hkL
            have htd := HT.out k hkL
            have htk := secs_take L k hkL
            have hl1 := (HW.out k (Nat.le_of_lt hkL)).1
            obtain ⟨x, hx⟩ : ∃ x, L[k] = x := ⟨_, rfl⟩
            rw [hx] at c0 c1 c2 c3 c4 htd htk
            have hB1 := Old.alloc hB (.cells #[.int .u64 (x.c.version : Nat), .int .u64 (x.c.codec : Nat), .int .u64 (x.c.code : Nat), .string ⟨x.c.digest.toArray⟩, .string ⟨x.data.toArray⟩] 40)
            have hcb := fun W => specSection_any x W htd.2.1 (by have := htd.2.2; omega) (by have := htd.1; omega)
            have hl2 := sec_len htd
            obtain ⟨R, hR⟩ : ∃ R, x.sec = R := ⟨_, rfl⟩
            obtain ⟨S, hS⟩ : ∃ S, secs (L.take k) = S := ⟨_, rfl⟩
            rw [hR] at hcb hl2 htk
            rw [hS] at hl1 htk
            rw [hS]
            have HX := Lib.hid (And.intro hcb htk)
            have happ := ba_app2
            clear hcs hx htd hcb htk hR hS
            go_wp2_with fail
            refine (HX.out.1 _).mono ?_
            rintro e w2 ⟨rfl, b2⟩
            have hB2 := Old.trans hB1 b2
            clear c0 c1 c2 c3 c4
            go_wp2_with fail
            all_goals go_roundw
            case rel => exact ⟨k + 1, hkn, by go_num, by rw [HX.out.2], hB2⟩
            case measure => simp [intOf]; omega
          · have hkn' : n = k := by omega
            subst hkn'
            rw [List.take_of_length_le (by rw [HF.out.1]; exact Nat.le_refl _)]
            clear hk hkn
            go_wp2_with fail
            go_loopw [46, 4] (fun i s wr => ∃ k : Nat, k ≤ n ∧ i = .int .i64 k ∧ s = .string ⟨(secs (L.drop k)).toArray⟩ ∧ Below w.heap.size w wr) (fun i _ _ => n - (intOf i).toNat)
            case atStart => exact ⟨0, Nat.zero_le _, rfl, by rw [List.drop_zero], hB⟩
            case round =>
              clear hB
              obtain ⟨k, hk, rfl, rfl, hB⟩ := hrel
              by_cases hkn : k < n
              · have hkI : (k : Int) < (n : Int) := by omega
                obtain h0 | ⟨b, off, rfl, hcs⟩ := HF.out.2.2
                · omega
                have hkL : k < L.length := by rw [HF.out.1]; exact hkn
                obtain ⟨c0, c1, c2, c3, c4⟩ := (hcs.old hB) k hkL
                have htd := HT.out k hkL
                have htk := secs_drop L k hkL
                have hl1 := (HW.out k (Nat.le_of_lt hkL)).2
                have hl3 := (HW.out (k + 1) hkL).2
                obtain ⟨x, hx⟩ : ∃ x, L[k] = x := ⟨_, rfl⟩
                rw [hx] at c0 c1 c2 c3 c4 htd htk
                have hB1 := Old.alloc hB (.cells #[.int .u64 (x.c.version : Nat), .int .u64 (x.c.codec : Nat), .int .u64 (x.c.code : Nat), .string ⟨x.c.digest.toArray⟩, .string ⟨x.data.toArray⟩] 40)
                have C1 := Blk.new wr 40 x.val
                have hrd := fun W (hb : Below w.heap.size w W) => seRead_ok x (secs (L.drop (k + 1))) 1048576 false aE aU aO aM aS W htd.2.1 (by have := htd.2.2; omega) (by have := htd.1; omega) (by omega) (by omega)
                  (by have h1 := (wr_len2 htd.2.1 (by have := htd.2.2; omega)).1; have h2 := htd.1; omega) (HE.out.old hb)
                rw [← htk] at hrd
                have hlw : x.sec.length ≤ (secs (L.drop k)).length := by rw [htk, List.length_append]; omega
                have hdr : (secs (L.drop k)).drop x.sec.length = secs (L.drop (k + 1)) := by rw [htk, List.drop_left]
                obtain ⟨S, hS⟩ : ∃ S, secs (L.drop k) = S := ⟨_, rfl⟩
                rw [hS] at hl1 hrd hlw hdr
                rw [hS]
                obtain ⟨r, hr⟩ : ∃ r, x.sec.length = r := ⟨_, rfl⟩
                rw [hr] at hrd hlw hdr
                have HX := Lib.hid (And.intro hrd hdr)
                have hlwI : (r : Int) ≤ (S.length : Int) := by omega
                have hlwN : decide ((S.length : Int) < (r : Int)) = false := by simp; omega
                unfold BlkL.val at C1
                clear hcs hx htd hrd htk hS hr hdr hl3
                go_wp2_with fail
                clear c0 c1 c2 c3 c4
                generalize wr.alloc (.cells #[.int .u64 (x.c.version : Nat), .int .u64 (x.c.codec : Nat), .int .u64 (x.c.code : Nat), .string ⟨x.c.digest.toArray⟩, .string ⟨x.data.toArray⟩] 40) = W1 at *
                refine (HX.out.1 W1 hB1).mono ?_
                rintro e w2 ⟨rfl, b2⟩
                have hB2 := Old.trans hB1 b2
                have C2 := C1.old b2
                have hB3 := Old.alloc hB2 (.cells #[.int .u64 (x.c.version : Nat), .int .u64 (x.c.codec : Nat), .int .u64 (x.c.code : Nat), .string ⟨x.c.digest.toArray⟩, .string ⟨x.data.toArray⟩] 40)
                have C3 := C2.alloc (.cells #[.int .u64 (x.c.version : Nat), .int .u64 (x.c.codec : Nat), .int .u64 (x.c.code : Nat), .string ⟨x.c.digest.toArray⟩, .string ⟨x.data.toArray⟩] 40)
                have A3 := Blk.new w2 40 #[.int .u64 (x.c.version : Nat), .int .u64 (x.c.codec : Nat), .int .u64 (x.c.code : Nat), .string ⟨x.c.digest.toArray⟩, .string ⟨x.data.toArray⟩]
                obtain ⟨W5, hW5⟩ : ∃ W5, w2.alloc (.cells #[.int .u64 (x.c.version : Nat), .int .u64 (x.c.codec : Nat), .int .u64 (x.c.code : Nat), .string ⟨x.c.digest.toArray⟩, .string ⟨x.data.toArray⟩] 40) = W5 := ⟨_, rfl⟩
                rw [hW5] at hB3 C3 A3
                have p0 : W5.cell? ⟨wr.heap.size, 0, none⟩ = some (.int .u64 (x.c.version : Nat)) := C3.cell 0
                have p1 : W5.cell? ⟨wr.heap.size, 1, none⟩ = some (.int .u64 (x.c.codec : Nat)) := C3.cell 1
                have p2 : W5.cell? ⟨wr.heap.size, 2, none⟩ = some (.int .u64 (x.c.code : Nat)) := C3.cell 2
                have p3 : W5.cell? ⟨wr.heap.size, 3, none⟩ = some (.string ⟨x.c.digest.toArray⟩) := C3.cell 3
                have p4 : W5.cell? ⟨wr.heap.size, 4, none⟩ = some (.string ⟨x.data.toArray⟩) := C3.cell 4
                have q0 : W5.cell? ⟨w2.heap.size, 0, none⟩ = some (.int .u64 (x.c.version : Nat)) := A3.cell 0
                have q1 : W5.cell? ⟨w2.heap.size, 1, none⟩ = some (.int .u64 (x.c.codec : Nat)) := A3.cell 1
                have q2 : W5.cell? ⟨w2.heap.size, 2, none⟩ = some (.int .u64 (x.c.code : Nat)) := A3.cell 2
                have q3 : W5.cell? ⟨w2.heap.size, 3, none⟩ = some (.string ⟨x.c.digest.toArray⟩) := A3.cell 3
                have q4 : W5.cell? ⟨w2.heap.size, 4, none⟩ = some (.string ⟨x.data.toArray⟩) := A3.cell 4
                clear C1 hB1 b2 C2 hB2 C3 A3
                unfold BlkL.val
                go_wp2_with fail
                all_goals go_roundw
                case rel => exact ⟨k + 1, hkn, by go_num, by rw [str_from S rfl, HX.out.2], hB3⟩
                case measure => simp [intOf]; omega
              · have hkn' : n = k := by omega
                subst hkn'
                rw [List.drop_of_length_le (by rw [HF.out.1]; exact Nat.le_refl _)]
                clear hk hkn
                have hw0 : secs [] = [] := rfl
                rw [hw0]
                have HR := Lib.hid (seRead_end [] 1048576 false aE aU aO aM aS wr (by omega) rfl (HE.out.old hB))
                go_wp2_with fail
                refine HR.out.mono ?_
                rintro e w2 ⟨rfl, b2⟩
                have hB2 := Old.trans hB b2
                have hB3 := Old.alloc hB2 (.cells #[.int .u64 0, .int .u64 0, .int .u64 0, .string ⟨#[]⟩, .string ⟨#[]⟩] 40)
                clear hB b2 HR
                go_wp2_with fail
                refine (ldOne_any aE aU aO aM aS _ (HE.out.old hB3).e).mono ?_
                rintro e w3 ⟨rfl, b3⟩
                go_wp2_with fail
                go_ret
                exact ⟨rfl, Old.trans hB3 b3⟩
  · have h50d : decide ((30 : Int) < (n : Int)) = true := by simp; omega
    go_wp2_with fail
    go_ret
    exact ⟨rfl, b1⟩
end Go.Proofs.YtaionnajhgjekaaDoor
