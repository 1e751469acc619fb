/-
  The walks of multihash.Decode, MHFromBytes, Encode and of impl.MhDecode, MhRead, MhEncode. Conditions: as each contract says.
-/
import Derived.Test.YtdfhfaeeejijcaaDoorMhW
import Derived.Test.YtdfhfaeeejijcaaDoorUvI
import Derived.Laws.CopyOwn
namespace Go.Proofs.YtdfhfaeeejijcaaDoor
open Go.RowKit

/-- What Decode comes to, of n0 bytes in block g. -/
def DePost (r : Option (Nat × List UInt8 × Nat)) (n0 g : Nat) (w : World) (e : Ending) (w' : World) : Prop :=
  Below w.heap.size w w' ∧ match r with
    | some (code, d, n) => (n = n0 → ∃ b o c, e = .returned (.tuple #[.pointer (some ⟨b, 0, none⟩), .nilIface]) ∧ Blk w' b 134 (dmCells code d.length g o c) ∧ d.length ≤ c ∧ Bs w' g o d) ∧ (n ≠ n0 → ∃ t p, e = .returned (.tuple #[.pointer none, .iface t p]))
    | none => ∃ t p, e = .returned (.tuple #[.pointer none, .iface t p])

set_option maxRecDepth 100000 in
set_option maxHeartbeats 2000000 in
theorem mhDecode_any (g o n c : Nat) (l : List UInt8) (w : World) (hn : n = l.length) (hl : l.length ≤ 2147483647) (hlc : l.length ≤ c) (hc : Bs w g o l) (hg : g < w.heap.size) (e0 : Er w 7) (e1 : Er w 8) (e2 : Er w 9) (e3 : Er w 13) :
    Calls Tryd.prog 56 #[.slice (some ⟨g, o, none⟩) n c] w (DePost (mhRd l) l.length g w) := by
  have HN := Lib.hid hn
  clear hn
  go_enter Tryd.func56, Tryd.ntmps56
  go_wp2_with fail
  refine (mhdecode_any g o n c l _ HN.out hl hlc hc hg e0 e1 e2 e3).mono ?_
  cases hr : mhRd l with
  | none =>
    rintro e w1 ⟨b1, t, p, rfl⟩
    unfold dmNone
    go_wp2_with fail
    go_ret2
    rw [hr]
    exact ⟨Old.alloc b1 _, _, _, rfl⟩
  | some x =>
    obtain ⟨code, d, m⟩ := x
    rintro e w1 ⟨b1, o2, cc, hdc, hbs, hy, hno⟩
    by_cases hm : m = l.length
    · obtain rfl := hy hm
      clear hy hno
      have HM := Lib.hid hm
      clear hm
      unfold dmCells
      go_wp2_with fail
      go_ret2
      rw [hr]
      exact ⟨Old.alloc b1 _, fun _ => ⟨_, o2, cc, rfl, Blk.new _ _ _, hdc, hbs.alloc _⟩, fun h => absurd HM.out h⟩
    · obtain ⟨t, p, rfl⟩ := hno hm
      clear hy hno
      have HM := Lib.hid hm
      clear hm
      unfold dmCells
      go_wp2_with fail
      go_ret2
      rw [hr]
      exact ⟨Old.alloc b1 _, fun h => absurd h HM.out, fun _ => ⟨_, _, rfl⟩⟩

/-- What MhDecode comes to. -/
def mdOf (r : Option (Nat × List UInt8 × Nat)) (n0 : Nat) : Value :=
  match r with
  | some (code, d, n) => if n = n0 then .tuple #[.int .u64 code, .string ⟨d.toArray⟩, .bool true] else .tuple #[.int .u64 0, .string ⟨#[]⟩, .bool false]
  | none => .tuple #[.int .u64 0, .string ⟨#[]⟩, .bool false]

/-- What MHFromBytes comes to. -/
def MfPost (r : Option (Nat × List UInt8 × Nat)) (g o c : Nat) (w : World) (e : Ending) (w' : World) : Prop :=
  Below w.heap.size w w' ∧ match r with
    | some (_, _, n) => e = .returned (.tuple #[.int .i64 n, .slice (some ⟨g, o, none⟩) n c, .nilIface])
    | none => ∃ t p, e = .returned (.tuple #[.int .i64 0, .slice none 0 0, .iface t p])

/-- What MhRead comes to. -/
def mreadOf (r : Option (Nat × List UInt8 × Nat)) : Value :=
  match r with
  | some (_, _, n) => .tuple #[.int .i64 n, .bool true]
  | none => .tuple #[.int .i64 0, .bool false]

set_option maxRecDepth 100000 in
set_option maxHeartbeats 2000000 in
theorem mhEncode_any (g o n c : Nat) (code : Int) (d : List UInt8) (w : World) (h0 : 0 ≤ code) (h1 : code < 18446744073709551616) (hn : n = d.length) (hl : d.length ≤ 140737488355328) (hc : Bs w g o d) :
    Calls Tryd.prog 37 #[.slice (some ⟨g, o, none⟩) n c, .int .u64 code] w fun e w' =>
      e = .returned (.tuple #[.slice (some ⟨w.heap.size, 0, none⟩) (mhWr code.toNat d).length (mhWr code.toNat d).length, .nilIface]) ∧ Below w.heap.size w w' ∧ Bs w' w.heap.size 0 (mhWr code.toNat d) := by
  have hln : n ≤ 140737488355328 := by omega
  obtain ⟨i0, hi, hz0, hz1, hz2⟩ := info_parts info5
  have hL := Lib.uvarint_length64 (x := code.toNat) (by omega)
  have hD := Lib.uvarint_length64 (x := n) (by omega)
  have hDp := Lib.uvarint_pos n
  obtain ⟨C, hC⟩ : ∃ C, Lib.uvarint code.toNat = C := ⟨_, rfl⟩
  obtain ⟨L, hLd⟩ : ∃ L, Lib.uvarint n = L := ⟨_, rfl⟩
  have hW : mhWr code.toNat d = C ++ L ++ d := by rw [mhWr, hC, ← hn, hLd]
  rw [hW]
  rw [hC] at hL
  rw [hLd] at hD hDp
  have hmk : ∀ W : World, (Instr.makeSlice 24 (.int .i64 ((C.length : Int) + (L.length : Int) + (n : Int))) (.int .i64 ((C.length : Int) + (L.length : Int) + (n : Int)))).run Tryd.prog W = .ok (.slice (some ⟨W.heap.size, 0, none⟩) (C.length + L.length + n) (C.length + L.length + n)) (W.alloc (.cells (madeCells #[.int .u8 0] (C.length + L.length + n)) 5)) := by
    intro W
    have hr := run_make (P := Tryd.prog) W 24 5 i0 (.int .u8 0) Tryd.underlying24 hi hz0 .i64 .i64 (C.length + L.length + n : Nat) (C.length + L.length + n : Nat) (by omega) (by omega) (by rw [hz2]; omega) (by omega)
    have e : ((C.length : Int) + (L.length : Int) + (n : Int)).toNat = C.length + L.length + n := by omega
    simpa [hz1, Value.cells, e] using hr
  have ht0 : (madeCells #[Value.int .u8 0] (C.length + L.length + n)).toList = List.replicate (C.length + L.length + n) (.int .u8 0) := toList_madeCells_one _ _
  obtain ⟨zs, hzs⟩ : ∃ zs, madeCells #[Value.int .u8 0] (C.length + L.length + n) = zs := ⟨_, rfl⟩
  rw [hzs] at hmk ht0
  have hzl : zs.toList.length = C.length + L.length + n := by rw [ht0]; simp
  clear ht0 hzs
  have HN := Lib.hid hn
  have HC := Lib.hid hC
  have HL := Lib.hid hLd
  have HZ := Lib.hid hzl
  clear hn hC hLd hzl
  go_enter Tryd.func37, Tryd.ntmps37
  go_wp2_with fail
  refine (uvarintSize_any code _ h0 h1).mono ?_
  rintro _ w1 ⟨rfl, rfl⟩
  rw [HC.out]
  go_wp2_with fail
  refine (uvarintSize_any (n : Int) _ (by omega) (by omega)).mono ?_
  rintro _ w2 ⟨rfl, rfl⟩
  rw [Int.toNat_natCast, HL.out]
  go_wp2_with fail
  have b0 : Below w.heap.size w (w.alloc (.cells zs 5)) := (Below.refl _ _).alloc (Nat.le_refl _) _
  have B0 : Blk (w.alloc (.cells zs 5)) w.heap.size 5 ([] ++ zs.toList).toArray := by simpa using Blk.new w 5 zs
  generalize w.alloc (.cells zs 5) = W at *
  clear hmk
  have hp1 := putUvarint_any w.heap.size 0 (C.length + L.length + n) (C.length + L.length + n) code.toNat (by omega) W (by rw [HC.out]; omega) (by
    intro j hj; rw [HC.out] at hj; have hzl := HZ.out; rw [Nat.zero_add]; exact blk_some B0 (by simp only [List.nil_append]; omega))
  rw [Int.toNat_of_nonneg h0, HC.out] at hp1
  refine hp1.mono ?_
  clear hp1
  rintro _ w1 ⟨rfl, h⟩
  have b1 : Below w.heap.size w w1 := by rw [h]; exact below_setCells (Nat.le_refl _) _ _ _ b0
  have B1 := blk_mid B0 0 rfl (Lib.byteCells C) (by rw [Lib.byteCells_length]; have hzl := HZ.out; omega)
  rw [← h, List.nil_append, Lib.byteCells_length] at B1
  clear h B0 b0
  go_wp2_with fail
  have hp2 := putUvarint_any w.heap.size C.length (C.length + L.length + n - C.length) (C.length + L.length + n - C.length) n (by omega) w1 (by rw [HL.out]; omega) (by
    intro j hj; rw [HL.out] at hj; have hzl := HZ.out; exact blk_some B1 (by rw [List.length_append, Lib.byteCells_length, List.length_drop]; omega))
  rw [HL.out] at hp2
  refine hp2.mono ?_
  clear hp2
  rintro _ w2 ⟨rfl, h⟩
  have b2 : Below w.heap.size w w2 := by rw [h]; exact below_setCells (Nat.le_refl _) _ _ _ b1
  have B2 := blk_mid B1 C.length (Lib.byteCells_length _) (Lib.byteCells L) (by rw [Lib.byteCells_length, List.length_drop]; have hzl := HZ.out; omega)
  rw [← h, ← Lib.byteCells_append, Lib.byteCells_length] at B2
  clear h B1 b1
  have hbs := hc.old b2
  by_cases hn0 : n = 0
  · subst hn0
    have hcp := fun x y m k => run_copy_none (P := Tryd.prog) w2 24 24 3 5 x y m k 0 c Tryd.underlying24 (by rw [hi]; exact congrArg some hz1) (Nat.zero_min _)
    have hd : d = [] := List.eq_nil_of_length_eq_zero HN.out.symm
    subst hd
    clear HN
    go_wp2_with fail
    go_ret2
    have hzl := HZ.out
    rw [List.append_nil, List.length_append]
    rw [List.drop_of_length_le (by rw [List.length_drop]; omega), List.append_nil] at B2
    exact ⟨rfl, b2, bs_blk B2⟩
  · have hcp := run_copy_cells (P := Tryd.prog) w2 24 24 3 5 w.heap.size (C.length + L.length) (C.length + L.length + n - (C.length + L.length)) (C.length + L.length + n - (C.length + L.length)) ⟨g, o, none⟩ n c (Lib.byteCells d) Tryd.underlying24 (by rw [hi]; exact congrArg some hz1)
      (by rw [Lib.byteCells_length, ← HN.out]; exact (Nat.min_eq_left (by omega)).symm) (by
        intro j v hj
        obtain ⟨hlt, rfl⟩ := List.getElem?_eq_some_iff.1 hj
        rw [Lib.byteCells_length] at hlt
        have := hbs j hlt
        have hadd : (⟨g, o, none⟩ : Addr).add j = ⟨g, o + j, none⟩ := by unfold Addr.add; split <;> simp_all
        rw [hadd, this]
        simp [Lib.byteCells]) (by
        intro j hj
        have hzl := HZ.out
        rw [Lib.byteCells_length, ← HN.out] at hj
        exact (blk_some B2 (by rw [List.length_append, Lib.byteCells_length, List.length_append, List.length_drop, List.length_drop]; omega)).1) (by
        intro j hj
        exact B2.frozen _) (by
        intro v hv
        obtain ⟨x, _, rfl⟩ := List.mem_map.1 hv
        rfl)
    rw [Lib.byteCells_length, ← HN.out, Nat.add_sub_cancel_left] at hcp
    go_wp2_with fail
    go_ret2
    rw [List.length_append, List.length_append, ← HN.out]
    refine ⟨rfl, ?_, ?_⟩
    · exact below_setCells (Nat.le_refl _) _ _ _ b2
    · have B3 := blk_mid B2 (C.length + L.length) (by rw [Lib.byteCells_length, List.length_append]) (Lib.byteCells d) (by have hzl := HZ.out; rw [Lib.byteCells_length, ← HN.out, List.length_drop, List.length_drop]; omega)
      rw [← Lib.byteCells_append, List.drop_of_length_le (by have hzl := HZ.out; rw [Lib.byteCells_length, ← HN.out, List.length_drop, List.length_drop]; omega), List.append_nil] at B3
      exact bs_blk B3
end Go.Proofs.YtdfhfaeeejijcaaDoor
