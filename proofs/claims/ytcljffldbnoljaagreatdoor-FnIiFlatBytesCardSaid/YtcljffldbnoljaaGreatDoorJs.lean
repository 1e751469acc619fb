/-
  impl.indexBytes, impl.IxBytes: the very bytes. Conditions: as each contract says. (Printed by mkjq.py.)
-/
import Derived.Test.YtcljffldbnoljaaGreatDoorJq
import Derived.BigRegion
namespace Go.Proofs.YtcljffldbnoljaaGreatDoor
open Go.RowKit Go.Sort Go.Lib

/-- What it answers: the bytes. -/
def IbPost0 (L : List EntL) (w : World) (e : Ending) (w' : World) : Prop := ∃ S : List UInt8, e = .returned (.tuple #[.string ⟨S.toArray⟩, .bool true]) ∧ WrittenIs 1024 L S ∧ S.length ≤ 46800814 ∧ Below w.heap.size w w'
/-- What Load leaves. -/
theorem loaded0 (pb mb : Nat) (v : Value) (L : List EntL) (w0 w : World) (hN : IxNew0 w pb mb) (hv : RecV w v (L.map saysE)) (hst : ∀ x ∈ L, x.ok) (hn : L.length ≤ 60) (E : E4 w0) (b0 : Below w0.heap.size w0 w) (hmb : w0.heap.size ≤ mb) :
    Calls Tryz.prog 169 #[.pointer (some ⟨pb, 0, none⟩), v] w fun e w' => e = .returned .nilIface ∧ w'.cell? ⟨pb, 0, none⟩ = some (.map (some mb)) ∧ MwOk w' mb w.heap.size L ∧ Below w0.heap.size w0 w' := by
  obtain ⟨hp, hpm, hM⟩ := hN
  refine (mwLoad_any pb mb v L w hp hpm hM hv hst hn (E.old b0)).mono ?_
  rintro e w' ⟨rfl, hO, k⟩
  exact ⟨rfl, (k.cell (p := ⟨pb, 0, none⟩) (World.block_lt_of_cell? w _ hp) (by simpa using hpm)).trans hp, hO, ((Kp.of_below b0 []).step k (fun i hi => by rw [List.mem_singleton.1 hi]; exact .inr hmb)).below⟩

set_option maxRecDepth 100000 in
set_option maxHeartbeats 8000000 in
theorem indexBytes0 (a : Option Addr) (n c : Nat) (L : List EntL) (w : World) (hL : L.length = n) (hn : n ≤ 60) (hne : L ≠ []) (hst : ∀ x ∈ L, x.ok) (h : n = 0 ∨ ∃ b off, a = some ⟨b, off, none⟩ ∧ Ens w b off L) (E : E4 w) :
    Calls Tryz.prog 15 #[.slice a n c, .int .u64 1024] w (IbPost0 L w) := by
  have HF := Lib.hid (And.intro hL (And.intro hst (And.intro h (And.intro E hne))))
  have HN := Lib.hid (ixNew0_any w)
  clear hL hst h E hne
  go_enter Tryz.func15, Tryz.ntmps15
  go_wp2_with fail
  refine HN.out.mono ?_
  rintro e w1 ⟨pb, mb, rfl, hNew, hpb, hmb, b1⟩
  have H1 := Lib.hid (And.intro hNew (And.intro hpb (And.intro hmb b1)))
  clear hNew hpb hmb b1 HN
  go_wp2_with fail
  go_loopw [8, 22] (fun v8 i wr => ∃ (k : Nat), k ≤ n ∧ i = .int .i64 k ∧ RecV wr v8 ((L.take k).map saysE) ∧ (∀ j ∈ v8.ownBlock.toList, w1.heap.size ≤ j) ∧ Below w1.heap.size w1 wr) (fun _ i _ => n - (intOf i).toNat)
  case atStart => exact ⟨0, Nat.zero_le _, rfl, by simpa [RecV] using rowV_nil w1 2, by simp [Value.ownBlock], Below.refl _ _⟩
  case round =>
    obtain ⟨k, hk, rfl, hR, hown, hB⟩ := hrel
    by_cases hkn : k < n
    · obtain h0 | ⟨b, off, rfl, hcs⟩ := HF.out.2.2.1
      · omega
      have hkL : k < L.length := by rw [HF.out.1]; exact hkn
      have hBw := Old.trans H1.out.2.2.2 hB
      obtain ⟨c0, c1, c2, c3, c4⟩ := (hcs.old hBw) k hkL
      have hsk := HF.out.2.1 _ (List.getElem_mem hkL)
      have htk : (L.take (k + 1)).map saysE = (L.take k).map saysE ++ [saysE L[k]] := by rw [List.take_succ_eq_append_getElem hkL, List.map_append]; rfl
      have hlk : ((L.take k).map saysE).length = k := by rw [List.length_map, List.length_take]; omega
      obtain ⟨x, hx⟩ : ∃ x, L[k] = x := ⟨_, rfl⟩
      rw [hx] at c0 c1 c2 c3 c4 hsk htk
      have hkI : (k : Int) < (n : Int) := by omega
      have hB1 := Old.alloc hBw (.cells #[.int .u64 (x.c.version : Nat), .int .u64 (x.c.codec : Nat), .int .u64 (x.c.code : Nat), .string ⟨x.c.digest.toArray⟩, .int .u64 (x.off : Nat)] 33)
      have b01 : Below wr.heap.size wr (wr.alloc (.cells #[.int .u64 (x.c.version : Nat), .int .u64 (x.c.codec : Nat), .int .u64 (x.c.code : Nat), .string ⟨x.c.digest.toArray⟩, .int .u64 (x.off : Nat)] 33)) := Old.alloc (Below.refl _ _) _
      have X1 := Blk.new wr 33 #[.int .u64 (x.c.version : Nat), .int .u64 (x.c.codec : Nat), .int .u64 (x.c.code : Nat), .string ⟨x.c.digest.toArray⟩, .int .u64 (x.off : Nat)]
      obtain ⟨W1, hW1⟩ : ∃ W1, wr.alloc (.cells #[.int .u64 (x.c.version : Nat), .int .u64 (x.c.codec : Nat), .int .u64 (x.c.code : Nat), .string ⟨x.c.digest.toArray⟩, .int .u64 (x.off : Nat)] 33) = W1 := ⟨_, rfl⟩
      rw [hW1] at hB1 b01 X1
      have q0 : W1.cell? ⟨wr.heap.size, 0, none⟩ = some (.int .u64 (x.c.version : Nat)) := X1.cell 0
      have q1 : W1.cell? ⟨wr.heap.size, 1, none⟩ = some (.int .u64 (x.c.codec : Nat)) := X1.cell 1
      have q2 : W1.cell? ⟨wr.heap.size, 2, none⟩ = some (.int .u64 (x.c.code : Nat)) := X1.cell 2
      have q3 : W1.cell? ⟨wr.heap.size, 3, none⟩ = some (.string ⟨x.c.digest.toArray⟩) := X1.cell 3
      have E1 := HF.out.2.2.2.1.old hB1
      have HC := Lib.hid (cidIn_any x.c W1 hsk.1.1 (by have := hsk.1.2.2; omega) E1.e0 E1.e1 E1.e2 E1.e3)
      have HS := Lib.hid (And.intro hR (And.intro hown (And.intro hB (And.intro htk (And.intro hlk (And.intro b01 X1))))))
      clear hcs hx hR hown hB hBw hsk htk hlk hB1 X1 E1 b01
      go_wp2_with fail
      clear hW1 c0 c1 c2 c3 c4 q0 q1 q2 q3
      refine HC.out.mono ?_
      rintro e w2 ⟨rfl, b2⟩
      obtain ⟨hR, hown, hB, htk, hlk, b01, X1⟩ := HS.out
      have b12 := Old.alloc b2 (.cells #[.string ⟨x.c.wr.toArray⟩] 51)
      have X3 := X1.old b12
      have C3 := Blk.new w2 51 #[.string ⟨x.c.wr.toArray⟩]
      have hbr := Old.trans b01 b12
      obtain ⟨W3, hW3⟩ : ∃ W3, w2.alloc (.cells #[.string ⟨x.c.wr.toArray⟩] 51) = W3 := ⟨_, rfl⟩
      rw [hW3] at X3 C3 hbr
      have q4 : W3.cell? ⟨wr.heap.size, 4, none⟩ = some (.int .u64 (x.off : Nat)) := X3.cell 4
      have p0 : W3.cell? ⟨w2.heap.size, 0, none⟩ = some (.string ⟨x.c.wr.toArray⟩) := C3.cell 0
      have hR3 : RowV W3 2 u8 k (((L.take k).map saysE).flatMap recC) := by
        have := RowV.old hR hbr
        rwa [hlk] at this
      have H3 := Lib.hid (And.intro hR3 (And.intro hbr hlk))
      clear hR hown hB htk hlk b01 X1 b12 X3 C3 hbr hR3 b2 HC
      go_wp2_with (at_builtin; go_must (refine wpList_rec1 W3 rfl _ _ rfl rfl u8 k _ rfl x.c.wr x.off _ rfl rfl H3.out.1 (by omega) ?_); intro v' w5 hR5 hT5; replace hR5 := Lib.hid (And.intro hR5 hT5); clear hT5)
      all_goals go_roundw
      case rel =>
        obtain ⟨hR, hown, hB, htk, hlk, b01, X1⟩ := HS.out
        obtain ⟨hR5, hT5⟩ := hR5.out
        obtain ⟨hR3, hbr, hlk⟩ := H3.out
        refine ⟨k + 1, by omega, by go_num, ?_, fun j hj => ?_, (((Kp.of_below hB []).old hbr).step hT5.1 (fun i hi => .inr (hown i hi))).below⟩
        · rw [htk]
          unfold RecV
          rw [List.length_append, hlk, List.flatMap_append]
          simpa [saysE] using hR5
        · rcases hT5.2 j hj with h1 | h1
          · exact hown j h1
          · exact Nat.le_trans hB.size (Nat.le_trans hbr.size h1)
      case measure => simp [intOf]; omega
    · have hkn' : k = n := by omega
      subst hkn'
      obtain ⟨hNew, hpb, hmb, b1⟩ := H1.out
      have hR2 : RecV wr u8 (L.map saysE) := by rwa [List.take_of_length_le (by rw [HF.out.1]; exact Nat.le_refl _)] at hR
      have HLd := Lib.hid (loaded0 pb mb u8 L w wr (hNew.old hB) hR2 HF.out.2.1 (by rw [HF.out.1]; exact hn) HF.out.2.2.2.1 (Old.trans b1 hB) hmb)
      have hmL : ∀ v W, (method 399 133 v "Load").run Tryz.prog W = .ok (169, v) W := fun _ _ => by kernel_rfl
      clear hNew hpb hmb b1 hR2 hR hown hB H1
      go_wp2_with fail
      refine HLd.out.mono ?_
      rintro e w7 ⟨rfl, hp7, hO7, b7⟩
      have HW := Lib.hid (written0 pb mb wr.heap.size L w7 hp7 hO7 HF.out.2.1 (by rw [HF.out.1]; exact hn) HF.out.2.2.2.2)
      have HB := Lib.hid b7
      clear hp7 hO7 b7 HLd
      go_wp2_with fail
      refine HW.out.mono ?_
      rintro e w8 ⟨S, rfl, hS, hSl, b8⟩
      have HQ := Lib.hid (And.intro hS (And.intro hSl (Old.trans HB.out b8)))
      clear hS hSl b8 HW HB
      go_wp2_with fail
      exact bodyPost_ret (v := .tuple #[.string ⟨S.toArray⟩, .bool true]) (by simp [results, Tryz.results15, go_sem]) rfl ⟨S, rfl, HQ.out⟩

set_option maxRecDepth 100000 in
set_option maxHeartbeats 2000000 in
theorem ixBytes0 (a : Option Addr) (n c : Nat) (L : List EntL) (w : World) (hL : L.length = n) (hn : n ≤ 60) (hne : L ≠ []) (hst : ∀ x ∈ L, x.ok) (h : n = 0 ∨ ∃ b off, a = some ⟨b, off, none⟩ ∧ Ens w b off L) (E : E4 w) :
    Calls Tryz.prog 8 #[.slice a n c, .int .u64 1024] w (IbPost0 L w) := by
  have HI := Lib.hid (indexBytes0 a n c L w hL hn hne hst h E)
  clear hL hn hne hst h E
  go_enter Tryz.func8, Tryz.ntmps8
  go_wp2_with fail
  refine HI.out.mono ?_
  rintro e w1 ⟨S, rfl, hS⟩
  have HS := Lib.hid hS
  clear hS
  go_wp2_with fail
  exact bodyPost_ret (v := .tuple #[.string ⟨S.toArray⟩, .bool true]) (by simp [results, Tryz.results8, go_sem]) rfl ⟨S, rfl, HS.out⟩

/-- What it answers: the bytes. -/
def IbPost1 (L : List EntL) (w : World) (e : Ending) (w' : World) : Prop := ∃ S : List UInt8, e = .returned (.tuple #[.string ⟨S.toArray⟩, .bool true]) ∧ WrittenIs 1025 L S ∧ S.length ≤ 46800814 ∧ Below w.heap.size w w'
/-- What Load leaves. -/
theorem loaded1 (pb mb : Nat) (v : Value) (L : List EntL) (w0 w : World) (hN : IxNew1 w pb mb) (hv : RecV w v (L.map saysE)) (hst : ∀ x ∈ L, x.ok) (hn : L.length ≤ 60) (E : E4 w0) (b0 : Below w0.heap.size w0 w) (hmb : w0.heap.size ≤ mb) :
    Calls Tryz.prog 165 #[.pointer (some ⟨pb, 0, none⟩), v] w fun e w' => e = .returned .nilIface ∧ w'.cell? ⟨pb, 0, none⟩ = some (.map (some mb)) ∧ MhOk w' mb w.heap.size L ∧ Below w0.heap.size w0 w' := by
  obtain ⟨hp, hpm, hM⟩ := hN
  refine (mhLoad_any pb mb v L w0 w hp hpm hM hv hst hn E b0 hmb).mono ?_
  rintro e w' ⟨rfl, hO, k⟩
  exact ⟨rfl, (k.cell (p := ⟨pb, 0, none⟩) (World.block_lt_of_cell? w _ hp) (by simpa using hpm)).trans hp, hO, ((Kp.of_below b0 []).step k (fun i hi => by rw [List.mem_singleton.1 hi]; exact .inr hmb)).below⟩

set_option maxRecDepth 100000 in
set_option maxHeartbeats 8000000 in
theorem indexBytes1 (a : Option Addr) (n c : Nat) (L : List EntL) (w : World) (hL : L.length = n) (hn : n ≤ 60) (hne : L ≠ []) (hst : ∀ x ∈ L, x.ok) (h : n = 0 ∨ ∃ b off, a = some ⟨b, off, none⟩ ∧ Ens w b off L) (E : E4 w) :
    Calls Tryz.prog 15 #[.slice a n c, .int .u64 1025] w (IbPost1 L w) := by
  have HF := Lib.hid (And.intro hL (And.intro hst (And.intro h (And.intro E hne))))
  have HN := Lib.hid (ixNew1_any w)
  clear hL hst h E hne
  go_enter Tryz.func15, Tryz.ntmps15
  go_wp2_with fail
  refine HN.out.mono ?_
  rintro e w1 ⟨pb, mb, rfl, hNew, hpb, hmb, b1⟩
  have H1 := Lib.hid (And.intro hNew (And.intro hpb (And.intro hmb b1)))
  clear hNew hpb hmb b1 HN
  go_wp2_with fail
  go_loopw [8, 22] (fun v8 i wr => ∃ (k : Nat), k ≤ n ∧ i = .int .i64 k ∧ RecV wr v8 ((L.take k).map saysE) ∧ (∀ j ∈ v8.ownBlock.toList, w1.heap.size ≤ j) ∧ Below w1.heap.size w1 wr) (fun _ i _ => n - (intOf i).toNat)
  case atStart => exact ⟨0, Nat.zero_le _, rfl, by simpa [RecV] using rowV_nil w1 2, by simp [Value.ownBlock], Below.refl _ _⟩
  case round =>
    obtain ⟨k, hk, rfl, hR, hown, hB⟩ := hrel
    by_cases hkn : k < n
    · obtain h0 | ⟨b, off, rfl, hcs⟩ := HF.out.2.2.1
      · omega
      have hkL : k < L.length := by rw [HF.out.1]; exact hkn
      have hBw := Old.trans H1.out.2.2.2 hB
      obtain ⟨c0, c1, c2, c3, c4⟩ := (hcs.old hBw) k hkL
      have hsk := HF.out.2.1 _ (List.getElem_mem hkL)
      have htk : (L.take (k + 1)).map saysE = (L.take k).map saysE ++ [saysE L[k]] := by rw [List.take_succ_eq_append_getElem hkL, List.map_append]; rfl
      have hlk : ((L.take k).map saysE).length = k := by rw [List.length_map, List.length_take]; omega
      obtain ⟨x, hx⟩ : ∃ x, L[k] = x := ⟨_, rfl⟩
      rw [hx] at c0 c1 c2 c3 c4 hsk htk
      have hkI : (k : Int) < (n : Int) := by omega
      have hB1 := Old.alloc hBw (.cells #[.int .u64 (x.c.version : Nat), .int .u64 (x.c.codec : Nat), .int .u64 (x.c.code : Nat), .string ⟨x.c.digest.toArray⟩, .int .u64 (x.off : Nat)] 33)
      have b01 : Below wr.heap.size wr (wr.alloc (.cells #[.int .u64 (x.c.version : Nat), .int .u64 (x.c.codec : Nat), .int .u64 (x.c.code : Nat), .string ⟨x.c.digest.toArray⟩, .int .u64 (x.off : Nat)] 33)) := Old.alloc (Below.refl _ _) _
      have X1 := Blk.new wr 33 #[.int .u64 (x.c.version : Nat), .int .u64 (x.c.codec : Nat), .int .u64 (x.c.code : Nat), .string ⟨x.c.digest.toArray⟩, .int .u64 (x.off : Nat)]
      obtain ⟨W1, hW1⟩ : ∃ W1, wr.alloc (.cells #[.int .u64 (x.c.version : Nat), .int .u64 (x.c.codec : Nat), .int .u64 (x.c.code : Nat), .string ⟨x.c.digest.toArray⟩, .int .u64 (x.off : Nat)] 33) = W1 := ⟨_, rfl⟩
      rw [hW1] at hB1 b01 X1
      have q0 : W1.cell? ⟨wr.heap.size, 0, none⟩ = some (.int .u64 (x.c.version : Nat)) := X1.cell 0
      have q1 : W1.cell? ⟨wr.heap.size, 1, none⟩ = some (.int .u64 (x.c.codec : Nat)) := X1.cell 1
      have q2 : W1.cell? ⟨wr.heap.size, 2, none⟩ = some (.int .u64 (x.c.code : Nat)) := X1.cell 2
      have q3 : W1.cell? ⟨wr.heap.size, 3, none⟩ = some (.string ⟨x.c.digest.toArray⟩) := X1.cell 3
      have E1 := HF.out.2.2.2.1.old hB1
      have HC := Lib.hid (cidIn_any x.c W1 hsk.1.1 (by have := hsk.1.2.2; omega) E1.e0 E1.e1 E1.e2 E1.e3)
      have HS := Lib.hid (And.intro hR (And.intro hown (And.intro hB (And.intro htk (And.intro hlk (And.intro b01 X1))))))
      clear hcs hx hR hown hB hBw hsk htk hlk hB1 X1 E1 b01
      go_wp2_with fail
      clear hW1 c0 c1 c2 c3 c4 q0 q1 q2 q3
      refine HC.out.mono ?_
      rintro e w2 ⟨rfl, b2⟩
      obtain ⟨hR, hown, hB, htk, hlk, b01, X1⟩ := HS.out
      have b12 := Old.alloc b2 (.cells #[.string ⟨x.c.wr.toArray⟩] 51)
      have X3 := X1.old b12
      have C3 := Blk.new w2 51 #[.string ⟨x.c.wr.toArray⟩]
      have hbr := Old.trans b01 b12
      obtain ⟨W3, hW3⟩ : ∃ W3, w2.alloc (.cells #[.string ⟨x.c.wr.toArray⟩] 51) = W3 := ⟨_, rfl⟩
      rw [hW3] at X3 C3 hbr
      have q4 : W3.cell? ⟨wr.heap.size, 4, none⟩ = some (.int .u64 (x.off : Nat)) := X3.cell 4
      have p0 : W3.cell? ⟨w2.heap.size, 0, none⟩ = some (.string ⟨x.c.wr.toArray⟩) := C3.cell 0
      have hR3 : RowV W3 2 u8 k (((L.take k).map saysE).flatMap recC) := by
        have := RowV.old hR hbr
        rwa [hlk] at this
      have H3 := Lib.hid (And.intro hR3 (And.intro hbr hlk))
      clear hR hown hB htk hlk b01 X1 b12 X3 C3 hbr hR3 b2 HC
      go_wp2_with (at_builtin; go_must (refine wpList_rec1 W3 rfl _ _ rfl rfl u8 k _ rfl x.c.wr x.off _ rfl rfl H3.out.1 (by omega) ?_); intro v' w5 hR5 hT5; replace hR5 := Lib.hid (And.intro hR5 hT5); clear hT5)
      all_goals go_roundw
      case rel =>
        obtain ⟨hR, hown, hB, htk, hlk, b01, X1⟩ := HS.out
        obtain ⟨hR5, hT5⟩ := hR5.out
        obtain ⟨hR3, hbr, hlk⟩ := H3.out
        refine ⟨k + 1, by omega, by go_num, ?_, fun j hj => ?_, (((Kp.of_below hB []).old hbr).step hT5.1 (fun i hi => .inr (hown i hi))).below⟩
        · rw [htk]
          unfold RecV
          rw [List.length_append, hlk, List.flatMap_append]
          simpa [saysE] using hR5
        · rcases hT5.2 j hj with h1 | h1
          · exact hown j h1
          · exact Nat.le_trans hB.size (Nat.le_trans hbr.size h1)
      case measure => simp [intOf]; omega
    · have hkn' : k = n := by omega
      subst hkn'
      obtain ⟨hNew, hpb, hmb, b1⟩ := H1.out
      have hR2 : RecV wr u8 (L.map saysE) := by rwa [List.take_of_length_le (by rw [HF.out.1]; exact Nat.le_refl _)] at hR
      have HLd := Lib.hid (loaded1 pb mb u8 L w wr (hNew.old hB) hR2 HF.out.2.1 (by rw [HF.out.1]; exact hn) HF.out.2.2.2.1 (Old.trans b1 hB) hmb)
      have hmL : ∀ v W, (method 399 93 v "Load").run Tryz.prog W = .ok (165, v) W := fun _ _ => by kernel_rfl
      clear hNew hpb hmb b1 hR2 hR hown hB H1
      go_wp2_with fail
      refine HLd.out.mono ?_
      rintro e w7 ⟨rfl, hp7, hO7, b7⟩
      have HW := Lib.hid (written1 pb mb wr.heap.size L w7 hp7 hO7 HF.out.2.1 (by rw [HF.out.1]; exact hn) HF.out.2.2.2.2)
      have HB := Lib.hid b7
      clear hp7 hO7 b7 HLd
      go_wp2_with fail
      refine HW.out.mono ?_
      rintro e w8 ⟨S, rfl, hS, hSl, b8⟩
      have HQ := Lib.hid (And.intro hS (And.intro hSl (Old.trans HB.out b8)))
      clear hS hSl b8 HW HB
      go_wp2_with fail
      exact bodyPost_ret (v := .tuple #[.string ⟨S.toArray⟩, .bool true]) (by simp [results, Tryz.results15, go_sem]) rfl ⟨S, rfl, HQ.out⟩

set_option maxRecDepth 100000 in
set_option maxHeartbeats 2000000 in
theorem ixBytes1 (a : Option Addr) (n c : Nat) (L : List EntL) (w : World) (hL : L.length = n) (hn : n ≤ 60) (hne : L ≠ []) (hst : ∀ x ∈ L, x.ok) (h : n = 0 ∨ ∃ b off, a = some ⟨b, off, none⟩ ∧ Ens w b off L) (E : E4 w) :
    Calls Tryz.prog 8 #[.slice a n c, .int .u64 1025] w (IbPost1 L w) := by
  have HI := Lib.hid (indexBytes1 a n c L w hL hn hne hst h E)
  clear hL hn hne hst h E
  go_enter Tryz.func8, Tryz.ntmps8
  go_wp2_with fail
  refine HI.out.mono ?_
  rintro e w1 ⟨S, rfl, hS⟩
  have HS := Lib.hid hS
  clear hS
  go_wp2_with fail
  exact bodyPost_ret (v := .tuple #[.string ⟨S.toArray⟩, .bool true]) (by simp [results, Tryz.results8, go_sem]) rfl ⟨S, rfl, HS.out⟩

end Go.Proofs.YtcljffldbnoljaaGreatDoor
