/-
  The walks of car.Characteristics.WriteTo, car.Header.WriteTo over a bytes.Buffer, of impl.C2Bytes and of FnC2Bytes. Conditions: as each contract says.
-/
import Derived.Test.YtdfhfaeeejijcaaDoorIb
import Derived.Test.YtdfhfaeeejijcaaDoorShelf
import Derived.Test.YtdfhfaeeejijcaaDoorC2Small
import Derived.Test.YtdfhfaeeejijcaaDoorLe
import Derived.StillTailTactics
namespace Go.Proofs.YtdfhfaeeejijcaaDoor
open Go.RowKit

theorem one_bytes (l : List UInt8) : ∀ v ∈ Lib.byteCells l, v.oneCell' = true := by
  intro v hv
  obtain ⟨x, _, rfl⟩ := List.mem_map.1 hv
  rfl
theorem src_bs {w : World} {g : Nat} {l : List UInt8} (h : Bs w g 0 l) : ∀ j v, (Lib.byteCells l)[j]? = some v → w.cell? ((⟨g, 0, none⟩ : Addr).add j) = some v := by
  intro j v hj
  obtain ⟨hlt, rfl⟩ := List.getElem?_eq_some_iff.1 hj
  rw [Lib.byteCells_length] at hlt
  have := h j hlt
  have hadd : (⟨g, 0, none⟩ : Addr).add j = ⟨g, 0 + j, none⟩ := by unfold Addr.add; split <;> simp_all
  rw [hadd, this]
  simp [Lib.byteCells]
theorem put64_any (g o n c : Nat) (A zs : List Value) (v : Int) (W : World) (t : TypeId) (h : Blk W g t (A ++ zs).toArray) (ho : A.length = o) (hz : 8 ≤ zs.length) (hn : 8 ≤ n) (h0 : 0 ≤ v) (h1 : v < 18446744073709551616) :
    Calls Tryd.prog 42 #[.agg #[], .slice (some ⟨g, o, none⟩) n c, .int .u64 v] W fun e w' => e = .returned (.tuple #[]) ∧
      Blk w' g t ((A ++ Lib.byteCells (Lib.leBytes 8 v.toNat)) ++ zs.drop 8).toArray ∧ ∀ (B : Nat) (a : World), B ≤ g → B ≤ W.heap.size → Below B a W → Below B a w' := by
  have hs : ∀ j, j < 8 → (W.cell? ⟨g, o + j, none⟩).isSome = true ∧ W.frozen? ⟨g, o + j, none⟩ = false := fun j hj => blk_some h (by rw [List.length_append]; omega)
  obtain ⟨x0, c0⟩ := Option.isSome_iff_exists.1 (hs 0 (by omega)).1
  obtain ⟨x1, c1⟩ := Option.isSome_iff_exists.1 (hs 1 (by omega)).1
  obtain ⟨x2, c2⟩ := Option.isSome_iff_exists.1 (hs 2 (by omega)).1
  obtain ⟨x3, c3⟩ := Option.isSome_iff_exists.1 (hs 3 (by omega)).1
  obtain ⟨x4, c4⟩ := Option.isSome_iff_exists.1 (hs 4 (by omega)).1
  obtain ⟨x5, c5⟩ := Option.isSome_iff_exists.1 (hs 5 (by omega)).1
  obtain ⟨x6, c6⟩ := Option.isSome_iff_exists.1 (hs 6 (by omega)).1
  obtain ⟨x7, c7⟩ := Option.isSome_iff_exists.1 (hs 7 (by omega)).1
  have hc := Tryd.binary_LE_PutUint64 g o n c v.toNat (by omega) x0 x1 x2 x3 x4 x5 x6 x7 W hn c0 c1 c2 c3 c4 c5 c6 c7 (hs 0 (by omega)).2 (hs 1 (by omega)).2 (hs 2 (by omega)).2 (hs 3 (by omega)).2 (hs 4 (by omega)).2 (hs 5 (by omega)).2 (hs 6 (by omega)).2 (hs 7 (by omega)).2
  rw [Int.toNat_of_nonneg h0] at hc
  refine hc.mono ?_
  rintro e w' ⟨rfl, rfl⟩
  refine ⟨rfl, ?_, fun B a hB hBW hb => below_setCells hB _ _ _ (hb.alloc hBW _)⟩
  have hl : (Lib.byteCells (Lib.leBytes 8 v.toNat)).length = 8 := by rw [Lib.byteCells_length, Lib.leBytes_length]
  have := blk_mid (h.alloc (.cells #[] 97)) o ho (Lib.byteCells (Lib.leBytes 8 v.toNat)) (by rw [hl]; exact hz)
  rw [hl] at this
  exact this

theorem mk_bytes (k : Nat) (hk : k ≤ 1000) (z : Int) (hz : z = k) (W : World) : (Instr.makeSlice 24 (.int .i64 z) (.int .i64 z)).run Tryd.prog W = .ok (.slice (some ⟨W.heap.size, 0, none⟩) k k) (W.alloc (.cells (List.replicate k (.int .u8 0)).toArray 5)) := by
  obtain ⟨i0, hi, hz0, hz1, hz2⟩ := info_parts info5
  subst hz
  have hr := run_make (P := Tryd.prog) W 24 5 i0 (.int .u8 0) Tryd.underlying24 hi hz0 .i64 .i64 k k (by omega) (by omega) (by rw [hz2]; omega) (by omega)
  have ht0 : madeCells #[Value.int .u8 0] k = (List.replicate k (Value.int .u8 0)).toArray := by
    rw [← toList_madeCells_one (.int .u8 0) k]
  rw [← ht0]
  simpa [hz1, Value.cells] using hr

set_option maxRecDepth 100000 in
set_option maxHeartbeats 4000000 in
theorem charWrite_any (x y : Int) (R : Nat → Option Value) (B b : Nat) (bs : List Value) (w : World) (hx0 : 0 ≤ x) (hx1 : x < 18446744073709551616) (hy0 : 0 ≤ y) (hy1 : y < 18446744073709551616)
    (h : LibA.IsBuffer 69 R 5 B b 0 bs w) (hBw : B ≤ w.heap.size) (hv1 : ∀ v ∈ bs, v.oneCell' = true) (hlim : bs.length ≤ 1000) :
    Calls Tryd.prog 41 #[.agg #[.int .u64 x, .int .u64 y], .iface 77 (.pointer (some ⟨b, 0, none⟩))] w fun e w' =>
      e = .returned (.tuple #[.int .i64 16, .nilIface]) ∧ LibA.IsBuffer 69 R 5 B b 0 (bs ++ Lib.byteCells (Lib.leBytes 8 x.toNat ++ Lib.leBytes 8 y.toNat)) w' ∧ Below B w w' ∧ Lib.OthersKept 5 (some b) w w' := by
  have hmk := mk_bytes 16 (by omega) 16 rfl
  obtain ⟨zs, hzs⟩ : ∃ zs, List.replicate 16 (Value.int .u8 0) = zs := ⟨_, rfl⟩
  rw [hzs] at hmk
  have hzl : zs.length = 16 := by rw [← hzs]; rfl
  clear hzs
  have HZ := Lib.hid hzl
  clear hzl
  have HX := Lib.hid (And.intro hx0 (And.intro hx1 (And.intro hy0 hy1)))
  clear hx0 hx1 hy0 hy1
  go_enter Tryd.func41, Tryd.ntmps41
  go_wp2_with fail
  obtain ⟨W, hW⟩ : ∃ W, ((w.alloc (.cells #[.int .u64 x, .int .u64 y] 72)).alloc (.cells zs.toArray 5)) = W := ⟨_, rfl⟩
  have b0 : Below w.heap.size w W := by rw [← hW]; exact Old.alloc (Old.alloc (Below.refl _ _) _) _
  have Bx : Blk W w.heap.size 72 #[.int .u64 x, .int .u64 y] := by rw [← hW]; exact (Blk.new _ _ _).alloc _
  have Bz : Blk W (w.heap.size + 1) 5 ([] ++ zs).toArray := by
    rw [← hW]
    have := Blk.new (w.alloc (.cells #[.int .u64 x, .int .u64 y] 72)) 5 zs.toArray
    simpa using this
  have hsz : W.heap.size = w.heap.size + 1 + 1 := by rw [← hW]; simp
  rw [hW]
  clear hW hmk
  have q0 : W.cell? ⟨w.heap.size, 0, none⟩ = some (.int .u64 x) := Bx.cell 0
  have q1 : W.cell? ⟨w.heap.size, 1, none⟩ = some (.int .u64 y) := Bx.cell 1
  go_still_tail 5, (by kernel_rfl)
  change wpList _ _ _ _ _ W.drew
  go_wp2_with fail
  refine (put64_any (w.heap.size + 1) 0 8 16 [] zs x W.drew 5 Bz.drew rfl (by have := HZ.out; omega) (by omega) HX.out.1 HX.out.2.1).mono ?_
  rintro _ w1 ⟨rfl, B1, hb1⟩
  have b1 : Below w.heap.size w w1 := hb1 _ _ (by omega) (by simp; omega) b0.drew
  have k1 : Below (w.heap.size + 1) W.drew w1 := hb1 _ _ (Nat.le_refl _) (by simp; omega) (Below.refl _ _)
  have q11 : w1.cell? ⟨w.heap.size, 1, none⟩ = some (.int .u64 y) := (k1.cell (p := ⟨w.heap.size, 1, none⟩) (Nat.lt_succ_self _)).trans q1
  have z1 : w.heap.size + 1 < w1.heap.size := B1.lt
  rw [List.nil_append] at B1
  clear hb1 k1 q0 q1 Bx Bz b0
  go_wp2_with fail
  go_still_tail 5, (by kernel_rfl)
  change wpList _ _ _ _ _ w1.drew
  go_wp2_with fail
  refine (put64_any (w.heap.size + 1) 8 8 8 (Lib.byteCells (Lib.leBytes 8 x.toNat)) (zs.drop 8) y w1.drew 5 B1.drew (by rw [Lib.byteCells_length, Lib.leBytes_length]) (by have := HZ.out; rw [List.length_drop]; omega) (by omega) HX.out.2.2.1 HX.out.2.2.2).mono ?_
  rintro _ w2 ⟨rfl, B2, hb2⟩
  have b2 : Below w.heap.size w w2 := hb2 _ _ (by omega) (by simp; omega) b1.drew
  have z2 : w.heap.size + 1 < w2.heap.size := B2.lt
  rw [List.drop_drop, List.drop_of_length_le (by have := HZ.out; omega), List.append_nil, ← Lib.byteCells_append] at B2
  clear hb2 q11 B1 b1
  have hmw : ∀ W, (method 297 77 (.pointer (some ⟨b, 0, none⟩)) "Write").run Tryd.prog W = .ok (102, .pointer (some ⟨b, 0, none⟩)) W := fun _ => by kernel_rfl
  go_wp2_with fail
  have hbuf := h.old b2
  have hbs := bs_blk B2
  have hl16 : (Lib.leBytes 8 x.toNat ++ Lib.leBytes 8 y.toNat).length = 16 := by rw [List.length_append, Lib.leBytes_length, Lib.leBytes_length]
  have hblt := h.lt
  refine (Tryd.Buffer_Write_at 69 R B b 0 bs (Lib.byteCells (Lib.leBytes 8 x.toNat ++ Lib.leBytes 8 y.toNat)) ⟨w.heap.size + 1, 0, none⟩ 16 16 w2 hbuf (by omega) hv1 (by rw [Lib.byteCells_length, hl16]) (by show w.heap.size + 1 ≠ b; omega) (src_bs hbs) (one_bytes _) (by omega)).mono ?_
  clear hmw
  rintro _ w3 ⟨rfl, hbuf3, b3, o3⟩
  have b03 : Below B w w3 := (b2.mono hBw).trans b3
  have o03 : Lib.OthersKept 5 (some b) w w3 := ((Lib.OthersKept.refl _ _ w).below b2).trans o3
  clear b3 o3 hbuf hbs hblt B2
  go_wp2_with fail
  go_ret2
  exact ⟨rfl, hbuf3, b03, o03⟩

set_option maxRecDepth 100000 in
set_option maxHeartbeats 4000000 in
theorem headWrite_any (x y u v z : Int) (R : Nat → Option Value) (B b : Nat) (bs : List Value) (w : World) (hx : 0 ≤ x ∧ x < 18446744073709551616) (hy : 0 ≤ y ∧ y < 18446744073709551616) (hu : 0 ≤ u ∧ u < 18446744073709551616) (hv : 0 ≤ v ∧ v < 18446744073709551616) (hz : 0 ≤ z ∧ z < 18446744073709551616)
    (h : LibA.IsBuffer 69 R 5 B b 0 bs w) (hBw : B ≤ w.heap.size) (hv1 : ∀ v ∈ bs, v.oneCell' = true) (hlim : bs.length ≤ 900) :
    Calls Tryd.prog 27 #[.agg #[.int .u64 x, .int .u64 y, .int .u64 u, .int .u64 v, .int .u64 z], .iface 77 (.pointer (some ⟨b, 0, none⟩))] w fun e w' =>
      e = .returned (.tuple #[.int .i64 40, .nilIface]) ∧ LibA.IsBuffer 69 R 5 B b 0 (bs ++ Lib.byteCells (hdBytes x y u v z)) w' ∧ Below B w w' ∧ Lib.OthersKept 5 (some b) w w' := by
  have hmk := mk_bytes 24 (by omega) 24 rfl
  obtain ⟨zs, hzs⟩ : ∃ zs, List.replicate 24 (Value.int .u8 0) = zs := ⟨_, rfl⟩
  rw [hzs] at hmk
  have hzl : zs.length = 24 := by rw [← hzs]; rfl
  clear hzs
  have HZ := Lib.hid hzl
  clear hzl
  have HX := Lib.hid (And.intro hx (And.intro hy (And.intro hu (And.intro hv hz))))
  clear hx hy hu hv hz
  have hmw : ∀ W, (method 297 77 (.pointer (some ⟨b, 0, none⟩)) "Write").run Tryd.prog W = .ok (102, .pointer (some ⟨b, 0, none⟩)) W := fun _ => by kernel_rfl
  have bA : Below w.heap.size w (w.alloc (.cells #[.int .u64 x, .int .u64 y, .int .u64 u, .int .u64 v, .int .u64 z] 74)) := Old.alloc (Below.refl _ _) _
  have BA := Blk.new w 74 #[.int .u64 x, .int .u64 y, .int .u64 u, .int .u64 v, .int .u64 z]
  have hblt := h.lt
  go_enter Tryd.func27, Tryd.ntmps27
  go_wp2_with fail
  obtain ⟨W, hW⟩ : ∃ W, w.alloc (.cells #[.int .u64 x, .int .u64 y, .int .u64 u, .int .u64 v, .int .u64 z] 74) = W := ⟨_, rfl⟩
  rw [hW] at BA bA ⊢
  have hszA : w.heap.size < W.heap.size := BA.lt
  refine (charWrite_any x y R B b bs W HX.out.1.1 HX.out.1.2 HX.out.2.1.1 HX.out.2.1.2 (h.old bA) (by omega) hv1 (by omega)).mono ?_
  rintro _ w1 ⟨rfl, hbuf1, b1, o1⟩
  have B1 : Blk w1 w.heap.size 74 #[.int .u64 x, .int .u64 y, .int .u64 u, .int .u64 v, .int .u64 z] := o1 _ _ BA (by simp; omega) (by intro c fz hh; injection hh with _ h2; revert h2; decide)
  have bB1 : Below B w w1 := (bA.mono hBw).trans b1
  have oB1 : Lib.OthersKept 5 (some b) w w1 := ((Lib.OthersKept.refl _ _ w).below bA).trans o1
  clear hW BA bA b1 o1
  go_wp2_with fail
  obtain ⟨G, hG⟩ : ∃ G, w1.heap.size = G := ⟨_, rfl⟩
  have z1 : w.heap.size < G := by rw [← hG]; exact B1.lt
  have hbG : b < G := by rw [← hG]; exact hbuf1.lt
  have hBG : B ≤ G := by omega
  obtain ⟨V, hV⟩ : ∃ V, w1.alloc (.cells zs.toArray 5) = V := ⟨_, rfl⟩
  have bV : Below G w1 V := by rw [← hV, ← hG]; exact Old.alloc (Below.refl _ _) _
  have Bz : Blk V G 5 ([] ++ zs).toArray := by
    rw [← hV, ← hG]
    simpa using Blk.new w1 5 zs.toArray
  have BV : Blk V w.heap.size 74 #[.int .u64 x, .int .u64 y, .int .u64 u, .int .u64 v, .int .u64 z] := B1.below bV z1
  rw [hV, hG]
  clear hV hmk
  have q2 : V.cell? ⟨w.heap.size, 2, none⟩ = some (.int .u64 u) := BV.cell 2
  have q3 : V.cell? ⟨w.heap.size, 3, none⟩ = some (.int .u64 v) := BV.cell 3
  have q4 : V.cell? ⟨w.heap.size, 4, none⟩ = some (.int .u64 z) := BV.cell 4
  have zG := Bz.lt
  have HG := Lib.hid hG
  clear hG BV
  go_still_tail 5, (by kernel_rfl)
  change wpList _ _ _ _ _ V.drew
  go_wp2_with fail
  refine (put64_any G 0 8 24 [] zs u V.drew 5 Bz.drew rfl (by have := HZ.out; omega) (by omega) HX.out.2.2.1.1 HX.out.2.2.1.2).mono ?_
  rintro _ w3 ⟨rfl, Bz3, hb3⟩
  have b3 : Below G w1 w3 := hb3 _ _ (Nat.le_refl _) (by simp; omega) bV.drew
  have k3 : Below G V.drew w3 := hb3 _ _ (Nat.le_refl _) (by simp; omega) (Below.refl _ _)
  have q33 : w3.cell? ⟨w.heap.size, 3, none⟩ = some (.int .u64 v) := (k3.cell (p := ⟨w.heap.size, 3, none⟩) z1).trans q3
  have q34 : w3.cell? ⟨w.heap.size, 4, none⟩ = some (.int .u64 z) := (k3.cell (p := ⟨w.heap.size, 4, none⟩) z1).trans q4
  have z3 : G < w3.heap.size := Bz3.lt
  rw [List.nil_append] at Bz3
  clear hb3 k3 q2 q3 q4 Bz bV zG
  go_wp2_with fail
  go_still_tail 5, (by kernel_rfl)
  change wpList _ _ _ _ _ w3.drew
  go_wp2_with fail
  refine (put64_any G 8 8 16 (Lib.byteCells (Lib.leBytes 8 u.toNat)) (zs.drop 8) v w3.drew 5 Bz3.drew (by rw [Lib.byteCells_length, Lib.leBytes_length]) (by have := HZ.out; rw [List.length_drop]; omega) (by omega) HX.out.2.2.2.1.1 HX.out.2.2.2.1.2).mono ?_
  rintro _ w4 ⟨rfl, Bz4, hb4⟩
  have b4 : Below G w1 w4 := hb4 _ _ (Nat.le_refl _) (by simp; omega) b3.drew
  have k4 : Below G w3.drew w4 := hb4 _ _ (Nat.le_refl _) (by simp; omega) (Below.refl _ _)
  have q44 : w4.cell? ⟨w.heap.size, 4, none⟩ = some (.int .u64 z) := (k4.cell (p := ⟨w.heap.size, 4, none⟩) z1).trans q34
  have z4 : G < w4.heap.size := Bz4.lt
  rw [List.drop_drop, ← Lib.byteCells_append] at Bz4
  clear hb4 k4 q33 q34 Bz3 b3 z3
  go_wp2_with fail
  go_still_tail 5, (by kernel_rfl)
  change wpList _ _ _ _ _ w4.drew
  go_wp2_with fail
  refine (put64_any G 16 8 8 (Lib.byteCells (Lib.leBytes 8 u.toNat ++ Lib.leBytes 8 v.toNat)) (zs.drop (8 + 8)) z w4.drew 5 Bz4.drew (by rw [Lib.byteCells_length, List.length_append, Lib.leBytes_length, Lib.leBytes_length]) (by have := HZ.out; rw [List.length_drop]; omega) (by omega) HX.out.2.2.2.2.1 HX.out.2.2.2.2.2).mono ?_
  rintro _ w5 ⟨rfl, Bz5, hb5⟩
  have b5 : Below G w1 w5 := hb5 _ _ (Nat.le_refl _) (by simp; omega) b4.drew
  have z5 : G < w5.heap.size := Bz5.lt
  rw [List.drop_drop, List.drop_of_length_le (by have := HZ.out; omega), List.append_nil, ← Lib.byteCells_append] at Bz5
  clear hb5 q44 Bz4 b4 z4
  go_wp2_with fail
  have b5' : Below w1.heap.size w1 w5 := by rw [HG.out]; exact b5
  have hl24 : (Lib.leBytes 8 u.toNat ++ Lib.leBytes 8 v.toNat ++ Lib.leBytes 8 z.toNat).length = 24 := by rw [List.length_append, List.length_append, Lib.leBytes_length, Lib.leBytes_length, Lib.leBytes_length]
  have hl16 : (Lib.leBytes 8 x.toNat ++ Lib.leBytes 8 y.toNat).length = 16 := by rw [List.length_append, Lib.leBytes_length, Lib.leBytes_length]
  refine (Tryd.Buffer_Write_at 69 R B b 0 (bs ++ Lib.byteCells (Lib.leBytes 8 x.toNat ++ Lib.leBytes 8 y.toNat)) (Lib.byteCells (Lib.leBytes 8 u.toNat ++ Lib.leBytes 8 v.toNat ++ Lib.leBytes 8 z.toNat)) ⟨G, 0, none⟩ 24 24 w5 (hbuf1.old b5') (by omega)
    (fun v hv => (List.mem_append.1 hv).elim (hv1 v) (one_bytes _ v)) (by rw [Lib.byteCells_length, hl24]) (by show G ≠ b; omega) (src_bs (bs_blk Bz5)) (one_bytes _) (by rw [List.length_append, Lib.byteCells_length, hl16]; omega)).mono ?_
  clear hmw
  rintro _ w6 ⟨rfl, hbuf6, b6, o6⟩
  have bb : Below B w w6 := (bB1.trans (b5.mono hBG)).trans b6
  have oo : Lib.OthersKept 5 (some b) w w6 := (oB1.below b5').trans o6
  rw [List.append_assoc, ← Lib.byteCells_append] at hbuf6
  have HH := Lib.hid hbuf6
  clear hbuf6 b6 o6 hbuf1 bB1 oB1 b5 b5' Bz5 B1
  go_wp2_with fail
  go_ret2
  refine ⟨rfl, ?_, bb, oo⟩
  have := HH.out
  simp only [hdBytes, List.append_assoc] at this ⊢
  exact this

set_option maxRecDepth 100000 in
set_option maxHeartbeats 4000000 in
theorem c2Bytes_any (x y u v z : Int) (w : World) (hx : 0 ≤ x ∧ x < 18446744073709551616) (hy : 0 ≤ y ∧ y < 18446744073709551616) (hu : 0 ≤ u ∧ u < 18446744073709551616) (hv : 0 ≤ v ∧ v < 18446744073709551616) (hz : 0 ≤ z ∧ z < 18446744073709551616) :
    Calls Tryd.prog 16 #[.agg #[.int .u64 x, .int .u64 y, .int .u64 u, .int .u64 v, .int .u64 z]] w fun e w' => e = .returned (.string ⟨(hdBytes x y u v z).toArray⟩) ∧ Below w.heap.size w w' := by
  have HX := Lib.hid (And.intro hx (And.intro hy (And.intro hu (And.intro hv hz))))
  clear hx hy hu hv hz
  go_enter Tryd.func16, Tryd.ntmps16
  go_wp2_with fail
  obtain ⟨W, hW⟩ : ∃ W, (w.alloc (.cells #[.int .u64 x, .int .u64 y, .int .u64 u, .int .u64 v, .int .u64 z] 41)).alloc (.cells #[.slice none 0 0, .int .i64 0, .int .i8 0] 69) = W := ⟨_, rfl⟩
  have b0 : Below w.heap.size w W := by rw [← hW]; exact Old.alloc (Old.alloc (Below.refl _ _) _) _
  have Bb : Blk W (w.heap.size + 1) 69 #[.slice none 0 0, .int .i64 0, .int .i8 0] := by
    rw [← hW]
    have := Blk.new (w.alloc (.cells #[.int .u64 x, .int .u64 y, .int .u64 u, .int .u64 v, .int .u64 z] 41)) 69 #[.slice none 0 0, .int .i64 0, .int .i8 0]
    simpa using this
  rw [hW]
  clear hW
  refine (headIn_any x y u v z W).mono ?_
  rintro _ w1 ⟨rfl, b1⟩
  have Bb1 := Bb.old b1
  have b01 : Below w.heap.size w w1 := Old.trans b0 b1
  clear b1 Bb b0
  go_wp2_with fail
  refine (headWrite_any x y u v z (fun _ => none) w.heap.size (w.heap.size + 1) [] w1 HX.out.1 HX.out.2.1 HX.out.2.2.1 HX.out.2.2.2.1 HX.out.2.2.2.2 (LibA.zero_isBuffer (by omega) (LibA.three_whole Bb1)) b01.size (by simp) (by simp)).mono ?_
  rintro _ w2 ⟨rfl, hbuf2, b2, o2⟩
  rw [List.nil_append] at hbuf2
  have b02 : Below w.heap.size w w2 := b01.trans b2
  have HB := Lib.hid hbuf2
  clear hbuf2 o2 b2 b01 Bb1
  go_wp2_with fail
  refine (Tryd.Buffer_String_at 69 (fun _ => none) w.heap.size (w.heap.size + 1) 0 _ w2 HB.out).mono ?_
  rintro _ w3 ⟨rfl, n, rfl⟩
  go_wp2_with fail
  go_ret
  exact ⟨rfl, below_drewN b02 _⟩

end Go.Proofs.YtdfhfaeeejijcaaDoor
