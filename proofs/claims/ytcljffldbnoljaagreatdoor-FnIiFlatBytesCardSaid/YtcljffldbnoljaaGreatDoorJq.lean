/-
  index.New, index.WriteTo, impl.written: the very bytes. Conditions: as each contract says. (Printed by mkjq.py.)
-/
import Derived.Test.YtcljffldbnoljaaGreatDoorJo
import Derived.Test.YtcljffldbnoljaaGreatDoorJl
import Derived.Test.YtcljffldbnoljaaGreatDoorJLp
import Derived.BigRegion
namespace Go.Proofs.YtcljffldbnoljaaGreatDoor
open Go.RowKit Go.Sort Go.Lib

/-- An index that holds nothing: block pb points to the map mb. -/
def IxNew0 (w : World) (pb mb : Nat) : Prop := w.cell? ⟨pb, 0, none⟩ = some (.map (some mb)) ∧ pb ≠ mb ∧ MapK 172 .u32 w mb [] (fun _ => none)
theorem IxNew0.old {w w' : World} {pb mb : Nat} (h : IxNew0 w pb mb) (b : Below w.heap.size w w') : IxNew0 w' pb mb := ⟨(b.cell (p := ⟨pb, 0, none⟩) (World.block_lt_of_cell? w _ h.1)).trans h.1, h.2.1, h.2.2.old b⟩
set_option maxRecDepth 100000 in
set_option maxHeartbeats 4000000 in
theorem newIx0 (w : World) : Calls Tryz.prog 40 #[] w fun e w' => ∃ pb mb, e = .returned (.iface 133 (.pointer (some ⟨pb, 0, none⟩))) ∧ IxNew0 w' pb mb ∧ w.heap.size ≤ pb ∧ w.heap.size ≤ mb ∧ Below w.heap.size w w' := by
  obtain ⟨w1, hw1⟩ : ∃ w1, w.alloc (.map #[] 0) = w1 := ⟨_, rfl⟩
  have b1 : Below w.heap.size w w1 := by rw [← hw1]; exact Old.alloc (Below.refl _ _) _
  have hM : MapK 172 .u32 w1 w.heap.size [] (fun _ => none) := by rw [← hw1]; exact mapK_made _ _ _
  have hs : w1.heap.size = w.heap.size + 1 := by rw [← hw1]; simp
  have hmm := @run_makeMap Tryz.prog
  obtain ⟨q, hq⟩ : ∃ q, w.heap.size = q := ⟨_, rfl⟩
  have b2 : Below w.heap.size w (w1.alloc (.cells #[.map (some q)] 132)) := Old.alloc b1 _
  have N2 := Blk.new w1 132 #[.map (some q)]
  have hM2 := hM.old (Old.alloc (Below.refl w1.heap.size w1) (.cells #[.map (some q)] 132))
  have H := Lib.hid (And.intro b2 (And.intro N2 (And.intro hM2 (And.intro hs hq))))
  rw [hq] at hM2 hs
  clear b1 hM b2 N2 hM2 hs
  go_enter Tryz.func40, Tryz.ntmps40
  go_wp2_with fail
  obtain ⟨b2, N2, hM2, hs, hq2⟩ := H.out
  exact bodyPost_ret (v := .iface 133 (.pointer (some ⟨w1.heap.size, 0, none⟩))) (by simp [results, Tryz.results40, go_sem]) rfl ⟨w1.heap.size, q, rfl, ⟨N2.cell 0, by omega, by have h := hM2; rw [hq2] at h; exact h⟩, by omega, by omega, b2⟩

set_option maxRecDepth 100000 in
set_option maxHeartbeats 4000000 in
theorem ixNew0_any (w : World) : Calls Tryz.prog 23 #[.int .u64 1024] w fun e w' => ∃ pb mb, e = .returned (.tuple #[.iface 133 (.pointer (some ⟨pb, 0, none⟩)), .nilIface]) ∧ IxNew0 w' pb mb ∧ w.heap.size ≤ pb ∧ w.heap.size ≤ mb ∧ Below w.heap.size w w' := by
  have HN := Lib.hid (newIx0 w)
  go_enter Tryz.func23, Tryz.ntmps23
  go_wp2_with fail
  refine HN.out.mono ?_
  rintro e w1 ⟨pb, mb, rfl, hN⟩
  have H := Lib.hid hN
  clear hN
  go_wp2_with fail
  exact bodyPost_ret (v := .tuple #[.iface 133 (.pointer (some ⟨pb, 0, none⟩)), .nilIface]) (by simp [results, Tryz.results23, go_sem]) rfl ⟨pb, mb, rfl, H.out⟩

set_option maxRecDepth 100000 in
set_option maxHeartbeats 2000000 in
theorem codec0_any (pb : Nat) (w : World) : Calls Tryz.prog 228 #[.pointer (some ⟨pb, 0, none⟩)] w fun e w' => e = .returned (.int .u64 1024) ∧ w' = w := by
  go_enter Tryz.func228, Tryz.ntmps228
  go_wp2_with fail
  exact bodyPost_ret (v := .int .u64 1024) (by simp [results, Tryz.results228, go_sem]) rfl ⟨rfl, rfl⟩

set_option maxRecDepth 100000 in
set_option maxHeartbeats 8000000 in
theorem writeTo0 (b pb mb B : Nat) (L : List EntL) (w0 w : World) (hp0 : w0.cell? ⟨pb, 0, none⟩ = some (.map (some mb))) (hOk : MwOk w0 mb B L) (hB0 : Below w0.heap.size w0 w) (hb : w0.heap.size ≤ b) (h : BuS w b none []) (hst : ∀ x ∈ L, x.ok) (hn : L.length ≤ 60) (hne : L ≠ []) :
    Calls Tryz.prog 28 #[.iface 133 (.pointer (some ⟨pb, 0, none⟩)), .iface 78 (.pointer (some ⟨b, 0, none⟩))] w fun e w' => ∃ (S : List UInt8) (z : Nat), e = .returned (.tuple #[.int .u64 (z : Nat), .nilIface]) ∧ WrittenIs 1024 L S ∧ S.length ≤ 46800814 ∧ (∃ row, BuS w' b row S) ∧ Below w0.heap.size w0 w' := by
  have hmk := mk_bytes 10 (by omega) 10 rfl w
  obtain ⟨W, hW⟩ : ∃ W, w.alloc (.cells (List.replicate 10 (.int .u8 0)).toArray 5) = W := ⟨_, rfl⟩
  have bW : Below w.heap.size w W := by rw [← hW]; exact Old.alloc (Below.refl _ _) _
  have N : Blk W w.heap.size 5 (List.replicate 10 (.int .u8 0)).toArray := by rw [← hW]; exact Blk.new _ _ _
  obtain ⟨gg, hgg⟩ : ∃ gg, w.heap.size = gg := ⟨_, rfl⟩
  rw [hW, hgg] at hmk
  rw [hgg] at N
  have hap : gg ∉ b :: (none : Option Nat).toList := fun hi => by
    have h1 := h.lt
    simp at hi
    omega
  have hUl := Lib.uvarint_length64 (x := 1024) (by omega)
  have hpu := putUvarint_any gg 0 10 10 1024 (by omega) W hUl (fun j hj => blk_some N (by simp; omega))
  obtain ⟨U, hU⟩ : ∃ U, Lib.uvarint 1024 = U := ⟨_, rfl⟩
  rw [hU] at hUl hpu
  obtain ⟨u, hu⟩ : ∃ u, U.length = u := ⟨_, rfl⟩
  rw [hu] at hUl hpu
  have N2 := blk_mid (A := []) (by simpa using N) 0 rfl (Lib.byteCells U) (by rw [Lib.byteCells_length, hu]; simp; omega)
  have K2 : Kp [gg] W (W.setCells gg 0 (Lib.byteCells U)) := Kp.of_setCells (.inl (by simp)) _ _ _ (Kp.refl _ _)
  obtain ⟨W2, hW2⟩ : ∃ W2, W.setCells gg 0 (Lib.byteCells U) = W2 := ⟨_, rfl⟩
  rw [hW2] at N2 K2 hpu
  have hs : Bs W2 gg 0 U := fun j hj => by
    have h1 := N2.cell (0 + j)
    rw [h1]
    have hj2 : j < (Lib.byteCells U).length := by rw [Lib.byteCells_length]; exact hj
    simp [List.getElem?_append_left, Lib.byteCells, hj]
  have b02 : Below w.heap.size w W2 := ((Kp.of_below bW []).step K2 (fun i hi => by rw [List.mem_singleton.1 hi]; exact .inr (by omega))).below
  have hdr : Below W2.heap.size W2 W2.drew := RowKit.Below.drew (Below.refl _ _)
  have HW := Lib.hid (bufWrite_wt b none [] U gg 0 u 10 W2.drew ((h.old b02).old hdr) (hs.old hdr) hu.symm hUl hap (by simp; omega))
  have HP := Lib.hid hpu
  have HC := Lib.hid (codec0_any pb W)
  have H := Lib.hid (And.intro hp0 (And.intro hOk (And.intro hB0 (And.intro hb (And.intro hst (And.intro hn (And.intro hne (And.intro b02 (And.intro hU hu)))))))))
  have hmC : ∀ v W, (method 399 133 v "Codec").run Tryz.prog W = .ok (228, v) W := fun _ _ => by kernel_rfl
  have hmM : ∀ v W, (method 399 133 v "Marshal").run Tryz.prog W = .ok (179, v) W := fun _ _ => by kernel_rfl
  have hna : ∀ v W, (nilAhead 399 78 v "Write").run Tryz.prog W = .ok (some false) W := fun _ _ => by kernel_rfl
  have hwr := hWrite
  have huI : (u : Int) ≤ 10 := by omega
  have hwu : IntKind.u64.wrap (u : Int) = (u : Int) := by rw [IntKind.wrap_u64]; omega
  clear hp0 hOk hB0 hb h hst hn hne bW N hap hpu hU hu N2 K2 hs b02 hdr
  go_enter Tryz.func28, Tryz.ntmps28
  go_wp2_with fail
  refine HC.out.mono ?_
  rintro e w1 ⟨rfl, rfl⟩
  go_wp2_with fail
  refine HP.out.mono ?_
  rintro e w2 ⟨rfl, rfl⟩
  clear hW2 hW hmk HC HP
  go_wp2_with fail
  go_region_with (go_at_call 157; refine HW.out.mono ?_; rintro _ w3 ⟨rfl, r3, hB3, hT3⟩; have H3 := Lib.hid (And.intro hB3 hT3); clear hB3 hT3)
  all_goals
    obtain ⟨hp0, hOk, hB0, hb, hst, hn, hne, b02, hU, hu⟩ := H.out
    obtain ⟨hB3, hT3⟩ := H3.out
    have hb2 : Below w0.heap.size w0 w2.drew := RowKit.Below.drew (((Kp.of_below hB0 []).old b02).below)
    have hfar : ∀ i ∈ b :: (none : Option Nat).toList, w0.heap.size ≤ i := fun i hi => by simp at hi; omega
    have HM := Lib.hid (mwMarshal_any b r3 _ pb mb B L w0 w3 hp0 hOk (hT3.below hb2 hfar) (hT3.far hb2 hfar) hB3 hst hn hne (by simp; omega))
    have H4 := Lib.hid (And.intro (hT3.below hb2 hfar) (And.intro (hT3.far hb2 hfar) (And.intro hU hu)))
    clear hp0 hOk hB0 hb hst hn hne b02 hU hu hB3 hT3 hb2 hfar HW H3
    go_wp2_with fail
    refine HM.out.mono ?_
    rintro e w5 ⟨T, hMT, hTl, rfl, r5, hB5, hT5⟩
    have H5 := Lib.hid (And.intro hB5 hT5)
    have hwz : IntKind.u64.wrap ((u : Int) + (T.length : Int)) = ((u + T.length : Nat) : Int) := by rw [IntKind.wrap_u64]; omega
    clear hT5 hB5 HM
    go_wp2_with fail
    obtain ⟨hb3, hfar3, hU, hu⟩ := H4.out
    refine bodyPost_ret (v := .tuple #[.int .u64 ((u + T.length : Nat) : Int), .nilIface]) (by simp [results, Tryz.results28, go_sem]; try omega) rfl ⟨U ++ T, u + T.length, rfl, ⟨T, by rw [hU], .inl ⟨rfl, hMT⟩⟩, ?_, ⟨_, H5.out.1⟩, H5.out.2.below hb3 hfar3⟩
    rw [List.length_append, hu]; omega

set_option maxRecDepth 100000 in
set_option maxHeartbeats 4000000 in
theorem written0 (pb mb B : Nat) (L : List EntL) (w : World) (hp0 : w.cell? ⟨pb, 0, none⟩ = some (.map (some mb))) (hOk : MwOk w mb B L) (hst : ∀ x ∈ L, x.ok) (hn : L.length ≤ 60) (hne : L ≠ []) :
    Calls Tryz.prog 14 #[.iface 133 (.pointer (some ⟨pb, 0, none⟩)), .nilIface] w fun e w' => ∃ S : List UInt8, e = .returned (.tuple #[.string ⟨S.toArray⟩, .bool true]) ∧ WrittenIs 1024 L S ∧ S.length ≤ 46800814 ∧ Below w.heap.size w w' := by
  have b1 : Below w.heap.size w (w.alloc (.cells #[.slice none 0 0, .int .i64 0, .int .i8 0] 75)) := Old.alloc (Below.refl _ _) _
  have HW := Lib.hid (writeTo0 w.heap.size pb mb B L w _ hp0 hOk b1 (Nat.le_refl _) (BuS.fresh w) hst hn hne)
  clear hp0 hOk hst hn hne b1
  go_enter Tryz.func14, Tryz.ntmps14
  go_wp2_with fail
  refine HW.out.mono ?_
  rintro e w3 ⟨S, z, rfl, hS, hl, ⟨row, B3⟩, b3⟩
  have H := Lib.hid (And.intro hS (And.intro hl b3))
  clear hS b3 HW
  go_wp2_with fail
  refine (Tryz.Buffer_String_at _ _ _ w.heap.size 0 _ w3 B3.isBuffer).mono ?_
  rintro e w4 ⟨rfl, k, rfl⟩
  clear B3
  go_wp2_with fail
  exact bodyPost_ret (v := .tuple #[.string ⟨S.toArray⟩, .bool true]) (by simp [results, Tryz.results14, go_sem]) rfl ⟨S, rfl, H.out.1, H.out.2.1, below_drewN H.out.2.2 k⟩

/-- An index that holds nothing: block pb points to the map mb. -/
def IxNew1 (w : World) (pb mb : Nat) : Prop := w.cell? ⟨pb, 0, none⟩ = some (.map (some mb)) ∧ pb ≠ mb ∧ MapK 25 .u64 w mb [] (fun _ => none)
theorem IxNew1.old {w w' : World} {pb mb : Nat} (h : IxNew1 w pb mb) (b : Below w.heap.size w w') : IxNew1 w' pb mb := ⟨(b.cell (p := ⟨pb, 0, none⟩) (World.block_lt_of_cell? w _ h.1)).trans h.1, h.2.1, h.2.2.old b⟩
set_option maxRecDepth 100000 in
set_option maxHeartbeats 4000000 in
theorem newIx1 (w : World) : Calls Tryz.prog 41 #[] w fun e w' => ∃ pb mb, e = .returned (.pointer (some ⟨pb, 0, none⟩)) ∧ IxNew1 w' pb mb ∧ w.heap.size ≤ pb ∧ w.heap.size ≤ mb ∧ Below w.heap.size w w' := by
  obtain ⟨w1, hw1⟩ : ∃ w1, w.alloc (.map #[] 0) = w1 := ⟨_, rfl⟩
  have b1 : Below w.heap.size w w1 := by rw [← hw1]; exact Old.alloc (Below.refl _ _) _
  have hM : MapK 25 .u64 w1 w.heap.size [] (fun _ => none) := by rw [← hw1]; exact mapK_made _ _ _
  have hs : w1.heap.size = w.heap.size + 1 := by rw [← hw1]; simp
  have hmm := @run_makeMap Tryz.prog
  obtain ⟨q, hq⟩ : ∃ q, w.heap.size = q := ⟨_, rfl⟩
  have b2 : Below w.heap.size w (w1.alloc (.cells #[.map (some q)] 135)) := Old.alloc b1 _
  have N2 := Blk.new w1 135 #[.map (some q)]
  have hM2 := hM.old (Old.alloc (Below.refl w1.heap.size w1) (.cells #[.map (some q)] 135))
  have H := Lib.hid (And.intro b2 (And.intro N2 (And.intro hM2 (And.intro hs hq))))
  rw [hq] at hM2 hs
  clear b1 hM b2 N2 hM2 hs
  go_enter Tryz.func41, Tryz.ntmps41
  go_wp2_with fail
  obtain ⟨b2, N2, hM2, hs, hq2⟩ := H.out
  exact bodyPost_ret (v := .pointer (some ⟨w1.heap.size, 0, none⟩)) (by simp [results, Tryz.results41, go_sem]) rfl ⟨w1.heap.size, q, rfl, ⟨N2.cell 0, by omega, by have h := hM2; rw [hq2] at h; exact h⟩, by omega, by omega, b2⟩

set_option maxRecDepth 100000 in
set_option maxHeartbeats 4000000 in
theorem ixNew1_any (w : World) : Calls Tryz.prog 23 #[.int .u64 1025] w fun e w' => ∃ pb mb, e = .returned (.tuple #[.iface 93 (.pointer (some ⟨pb, 0, none⟩)), .nilIface]) ∧ IxNew1 w' pb mb ∧ w.heap.size ≤ pb ∧ w.heap.size ≤ mb ∧ Below w.heap.size w w' := by
  have HN := Lib.hid (newIx1 w)
  go_enter Tryz.func23, Tryz.ntmps23
  go_wp2_with fail
  refine HN.out.mono ?_
  rintro e w1 ⟨pb, mb, rfl, hN⟩
  have H := Lib.hid hN
  clear hN
  go_wp2_with fail
  exact bodyPost_ret (v := .tuple #[.iface 93 (.pointer (some ⟨pb, 0, none⟩)), .nilIface]) (by simp [results, Tryz.results23, go_sem]) rfl ⟨pb, mb, rfl, H.out⟩

set_option maxRecDepth 100000 in
set_option maxHeartbeats 2000000 in
theorem codec1_any (pb : Nat) (w : World) : Calls Tryz.prog 163 #[.pointer (some ⟨pb, 0, none⟩)] w fun e w' => e = .returned (.int .u64 1025) ∧ w' = w := by
  go_enter Tryz.func163, Tryz.ntmps163
  go_wp2_with fail
  exact bodyPost_ret (v := .int .u64 1025) (by simp [results, Tryz.results163, go_sem]) rfl ⟨rfl, rfl⟩

set_option maxRecDepth 100000 in
set_option maxHeartbeats 8000000 in
theorem writeTo1 (b pb mb B : Nat) (L : List EntL) (w0 w : World) (hp0 : w0.cell? ⟨pb, 0, none⟩ = some (.map (some mb))) (hOk : MhOk w0 mb B L) (hB0 : Below w0.heap.size w0 w) (hb : w0.heap.size ≤ b) (h : BuS w b none []) (hst : ∀ x ∈ L, x.ok) (hn : L.length ≤ 60) (hne : L ≠ []) :
    Calls Tryz.prog 28 #[.iface 93 (.pointer (some ⟨pb, 0, none⟩)), .iface 78 (.pointer (some ⟨b, 0, none⟩))] w fun e w' => ∃ (S : List UInt8) (z : Nat), e = .returned (.tuple #[.int .u64 (z : Nat), .nilIface]) ∧ WrittenIs 1025 L S ∧ S.length ≤ 46800814 ∧ (∃ row, BuS w' b row S) ∧ Below w0.heap.size w0 w' := by
  have hmk := mk_bytes 10 (by omega) 10 rfl w
  obtain ⟨W, hW⟩ : ∃ W, w.alloc (.cells (List.replicate 10 (.int .u8 0)).toArray 5) = W := ⟨_, rfl⟩
  have bW : Below w.heap.size w W := by rw [← hW]; exact Old.alloc (Below.refl _ _) _
  have N : Blk W w.heap.size 5 (List.replicate 10 (.int .u8 0)).toArray := by rw [← hW]; exact Blk.new _ _ _
  obtain ⟨gg, hgg⟩ : ∃ gg, w.heap.size = gg := ⟨_, rfl⟩
  rw [hW, hgg] at hmk
  rw [hgg] at N
  have hap : gg ∉ b :: (none : Option Nat).toList := fun hi => by
    have h1 := h.lt
    simp at hi
    omega
  have hUl := Lib.uvarint_length64 (x := 1025) (by omega)
  have hpu := putUvarint_any gg 0 10 10 1025 (by omega) W hUl (fun j hj => blk_some N (by simp; omega))
  obtain ⟨U, hU⟩ : ∃ U, Lib.uvarint 1025 = U := ⟨_, rfl⟩
  rw [hU] at hUl hpu
  obtain ⟨u, hu⟩ : ∃ u, U.length = u := ⟨_, rfl⟩
  rw [hu] at hUl hpu
  have N2 := blk_mid (A := []) (by simpa using N) 0 rfl (Lib.byteCells U) (by rw [Lib.byteCells_length, hu]; simp; omega)
  have K2 : Kp [gg] W (W.setCells gg 0 (Lib.byteCells U)) := Kp.of_setCells (.inl (by simp)) _ _ _ (Kp.refl _ _)
  obtain ⟨W2, hW2⟩ : ∃ W2, W.setCells gg 0 (Lib.byteCells U) = W2 := ⟨_, rfl⟩
  rw [hW2] at N2 K2 hpu
  have hs : Bs W2 gg 0 U := fun j hj => by
    have h1 := N2.cell (0 + j)
    rw [h1]
    have hj2 : j < (Lib.byteCells U).length := by rw [Lib.byteCells_length]; exact hj
    simp [List.getElem?_append_left, Lib.byteCells, hj]
  have b02 : Below w.heap.size w W2 := ((Kp.of_below bW []).step K2 (fun i hi => by rw [List.mem_singleton.1 hi]; exact .inr (by omega))).below
  have hdr : Below W2.heap.size W2 W2.drew := RowKit.Below.drew (Below.refl _ _)
  have HW := Lib.hid (bufWrite_wt b none [] U gg 0 u 10 W2.drew ((h.old b02).old hdr) (hs.old hdr) hu.symm hUl hap (by simp; omega))
  have HP := Lib.hid hpu
  have HC := Lib.hid (codec1_any pb W)
  have H := Lib.hid (And.intro hp0 (And.intro hOk (And.intro hB0 (And.intro hb (And.intro hst (And.intro hn (And.intro hne (And.intro b02 (And.intro hU hu)))))))))
  have hmC : ∀ v W, (method 399 93 v "Codec").run Tryz.prog W = .ok (163, v) W := fun _ _ => by kernel_rfl
  have hmM : ∀ v W, (method 399 93 v "Marshal").run Tryz.prog W = .ok (166, v) W := fun _ _ => by kernel_rfl
  have hna : ∀ v W, (nilAhead 399 78 v "Write").run Tryz.prog W = .ok (some false) W := fun _ _ => by kernel_rfl
  have hwr := hWrite
  have huI : (u : Int) ≤ 10 := by omega
  have hwu : IntKind.u64.wrap (u : Int) = (u : Int) := by rw [IntKind.wrap_u64]; omega
  clear hp0 hOk hB0 hb h hst hn hne bW N hap hpu hU hu N2 K2 hs b02 hdr
  go_enter Tryz.func28, Tryz.ntmps28
  go_wp2_with fail
  refine HC.out.mono ?_
  rintro e w1 ⟨rfl, rfl⟩
  go_wp2_with fail
  refine HP.out.mono ?_
  rintro e w2 ⟨rfl, rfl⟩
  clear hW2 hW hmk HC HP
  go_wp2_with fail
  go_region_with (go_at_call 157; refine HW.out.mono ?_; rintro _ w3 ⟨rfl, r3, hB3, hT3⟩; have H3 := Lib.hid (And.intro hB3 hT3); clear hB3 hT3)
  all_goals
    obtain ⟨hp0, hOk, hB0, hb, hst, hn, hne, b02, hU, hu⟩ := H.out
    obtain ⟨hB3, hT3⟩ := H3.out
    have hb2 : Below w0.heap.size w0 w2.drew := RowKit.Below.drew (((Kp.of_below hB0 []).old b02).below)
    have hfar : ∀ i ∈ b :: (none : Option Nat).toList, w0.heap.size ≤ i := fun i hi => by simp at hi; omega
    have HM := Lib.hid (mhMarshal_any b r3 _ pb mb B L w0 w3 hp0 hOk (hT3.below hb2 hfar) (hT3.far hb2 hfar) hB3 hst hn hne (by simp; omega))
    have H4 := Lib.hid (And.intro (hT3.below hb2 hfar) (And.intro (hT3.far hb2 hfar) (And.intro hU hu)))
    clear hp0 hOk hB0 hb hst hn hne b02 hU hu hB3 hT3 hb2 hfar HW H3
    go_wp2_with fail
    refine HM.out.mono ?_
    rintro e w5 ⟨T, z, hMT, hTl, hzl, rfl, r5, hB5, hT5⟩
    have H5 := Lib.hid (And.intro hB5 hT5)
    have hwz : IntKind.u64.wrap ((u : Int) + (z : Int)) = ((u + z : Nat) : Int) := by rw [IntKind.wrap_u64]; omega
    clear hT5 hB5 HM
    go_wp2_with fail
    obtain ⟨hb3, hfar3, hU, hu⟩ := H4.out
    refine bodyPost_ret (v := .tuple #[.int .u64 ((u + z : Nat) : Int), .nilIface]) (by simp [results, Tryz.results28, go_sem]; try omega) rfl ⟨U ++ T, u + z, rfl, ⟨T, by rw [hU], .inr ⟨rfl, hMT⟩⟩, ?_, ⟨_, H5.out.1⟩, H5.out.2.below hb3 hfar3⟩
    rw [List.length_append, hu]; omega

set_option maxRecDepth 100000 in
set_option maxHeartbeats 4000000 in
theorem written1 (pb mb B : Nat) (L : List EntL) (w : World) (hp0 : w.cell? ⟨pb, 0, none⟩ = some (.map (some mb))) (hOk : MhOk w mb B L) (hst : ∀ x ∈ L, x.ok) (hn : L.length ≤ 60) (hne : L ≠ []) :
    Calls Tryz.prog 14 #[.iface 93 (.pointer (some ⟨pb, 0, none⟩)), .nilIface] w fun e w' => ∃ S : List UInt8, e = .returned (.tuple #[.string ⟨S.toArray⟩, .bool true]) ∧ WrittenIs 1025 L S ∧ S.length ≤ 46800814 ∧ Below w.heap.size w w' := by
  have b1 : Below w.heap.size w (w.alloc (.cells #[.slice none 0 0, .int .i64 0, .int .i8 0] 75)) := Old.alloc (Below.refl _ _) _
  have HW := Lib.hid (writeTo1 w.heap.size pb mb B L w _ hp0 hOk b1 (Nat.le_refl _) (BuS.fresh w) hst hn hne)
  clear hp0 hOk hst hn hne b1
  go_enter Tryz.func14, Tryz.ntmps14
  go_wp2_with fail
  refine HW.out.mono ?_
  rintro e w3 ⟨S, z, rfl, hS, hl, ⟨row, B3⟩, b3⟩
  have H := Lib.hid (And.intro hS (And.intro hl b3))
  clear hS b3 HW
  go_wp2_with fail
  refine (Tryz.Buffer_String_at _ _ _ w.heap.size 0 _ w3 B3.isBuffer).mono ?_
  rintro e w4 ⟨rfl, k, rfl⟩
  clear B3
  go_wp2_with fail
  exact bodyPost_ret (v := .tuple #[.string ⟨S.toArray⟩, .bool true]) (by simp [results, Tryz.results14, go_sem]) rfl ⟨S, rfl, H.out.1, H.out.2.1, below_drewN H.out.2.2 k⟩

end Go.Proofs.YtcljffldbnoljaaGreatDoor
