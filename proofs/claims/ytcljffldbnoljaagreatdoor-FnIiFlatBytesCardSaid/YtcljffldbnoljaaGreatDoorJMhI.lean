/-
  The walks of multihash.Decode, MHFromBytes, Encode and of impl.MhDecode, MhRead, MhEncode. Conditions: as each contract says.
  The walks of impl.MhEncode, spec.ReadVarint, spec.ReadMultihash, laws.mhOne, FnMhDecode and FnMhCanon. Conditions: the packages' errors are not nil (they are as start-up lays them).
  The walks of cid.uvarint (of a varint that is one), Cid.Version, Defined, Bytes, KeyString. Conditions: as each contract says.
  strings.Builder by hand (copyCheck, WriteByte, Write on one that has been grown), and cid.NewCidV1. Conditions: as each contract says.
-/
import Derived.Test.YtcljffldbnoljaaGreatDoorJLp
import Derived.Laws.CopyOwn
import Derived.Test.YtcljffldbnoljaaGreatDoorJQf
import Derived.Lib.Builder
import Derived.Lib.BufferWrite
namespace Go.Proofs.YtcljffldbnoljaaGreatDoor
open Go.RowKit

/-- What Decode comes to, of n0 bytes in block g. -/
def DePost (r : Option (Nat × List UInt8 × Nat)) (n0 g : Nat) (w : World) (e : Ending) (w' : World) : Prop :=
  Below w.heap.size w w' ∧ match r with
    | some (code, d, n) => (n = n0 → ∃ b o c, e = .returned (.tuple #[.pointer (some ⟨b, 0, none⟩), .nilIface]) ∧ Blk w' b 130 (dmCells code d.length g o c) ∧ d.length ≤ c ∧ Bs w' g o d) ∧ (n ≠ n0 → ∃ t p, e = .returned (.tuple #[.pointer none, .iface t p]))
    | none => ∃ t p, e = .returned (.tuple #[.pointer none, .iface t p])

set_option maxRecDepth 100000 in
set_option maxHeartbeats 2000000 in
theorem mhDecode_any (g o n c : Nat) (l : List UInt8) (w : World) (hn : n = l.length) (hl : l.length ≤ 2147483647) (hlc : l.length ≤ c) (hc : Bs w g o l) (hg : g < w.heap.size) (e0 : Er w 3) (e1 : Er w 4) (e2 : Er w 5) (e3 : Er w 7) :
    Calls Tryz.prog 56 #[.slice (some ⟨g, o, none⟩) n c] w (DePost (mhRd l) l.length g w) := by
  have HN := Lib.hid hn
  clear hn
  go_enter Tryz.func56, Tryz.ntmps56
  go_wp2_with fail
  refine (mhdecode_any g o n c l _ HN.out hl hlc hc hg e0 e1 e2 e3).mono ?_
  cases hr : mhRd l with
  | none =>
    rintro e w1 ⟨b1, t, p, rfl⟩
    unfold dmNone
    go_wp2_with fail
    go_ret2
    rw [hr]
    exact ⟨Old.alloc b1 _, _, _, rfl⟩
  | some x =>
    obtain ⟨code, d, m⟩ := x
    rintro e w1 ⟨b1, o2, cc, hdc, hbs, hy, hno⟩
    by_cases hm : m = l.length
    · obtain rfl := hy hm
      clear hy hno
      have HM := Lib.hid hm
      clear hm
      unfold dmCells
      go_wp2_with fail
      go_ret2
      rw [hr]
      exact ⟨Old.alloc b1 _, fun _ => ⟨_, o2, cc, rfl, Blk.new _ _ _, hdc, hbs.alloc _⟩, fun h => absurd HM.out h⟩
    · obtain ⟨t, p, rfl⟩ := hno hm
      clear hy hno
      have HM := Lib.hid hm
      clear hm
      unfold dmCells
      go_wp2_with fail
      go_ret2
      rw [hr]
      exact ⟨Old.alloc b1 _, fun h => absurd h HM.out, fun _ => ⟨_, _, rfl⟩⟩

/-- What MhDecode comes to. -/
def mdOf (r : Option (Nat × List UInt8 × Nat)) (n0 : Nat) : Value :=
  match r with
  | some (code, d, n) => if n = n0 then .tuple #[.int .u64 code, .string ⟨d.toArray⟩, .bool true] else .tuple #[.int .u64 0, .string ⟨#[]⟩, .bool false]
  | none => .tuple #[.int .u64 0, .string ⟨#[]⟩, .bool false]

/-- What MHFromBytes comes to. -/
def MfPost (r : Option (Nat × List UInt8 × Nat)) (g o c : Nat) (w : World) (e : Ending) (w' : World) : Prop :=
  Below w.heap.size w w' ∧ match r with
    | some (_, _, n) => e = .returned (.tuple #[.int .i64 n, .slice (some ⟨g, o, none⟩) n c, .nilIface])
    | none => ∃ t p, e = .returned (.tuple #[.int .i64 0, .slice none 0 0, .iface t p])

/-- What MhRead comes to. -/
def mreadOf (r : Option (Nat × List UInt8 × Nat)) : Value :=
  match r with
  | some (_, _, n) => .tuple #[.int .i64 n, .bool true]
  | none => .tuple #[.int .i64 0, .bool false]

set_option maxRecDepth 100000 in
set_option maxHeartbeats 2000000 in
theorem mhEncode_any (g o n c : Nat) (code : Int) (d : List UInt8) (w : World) (h0 : 0 ≤ code) (h1 : code < 18446744073709551616) (hn : n = d.length) (hl : d.length ≤ 140737488355328) (hc : Bs w g o d) :
    Calls Tryz.prog 35 #[.slice (some ⟨g, o, none⟩) n c, .int .u64 code] w fun e w' =>
      e = .returned (.tuple #[.slice (some ⟨w.heap.size, 0, none⟩) (mhWr code.toNat d).length (mhWr code.toNat d).length, .nilIface]) ∧ Below w.heap.size w w' ∧ Bs w' w.heap.size 0 (mhWr code.toNat d) := by
  have hln : n ≤ 140737488355328 := by omega
  obtain ⟨i0, hi, hz0, hz1, hz2⟩ := info_parts info5
  have hL := Lib.uvarint_length64 (x := code.toNat) (by omega)
  have hD := Lib.uvarint_length64 (x := n) (by omega)
  have hDp := Lib.uvarint_pos n
  obtain ⟨C, hC⟩ : ∃ C, Lib.uvarint code.toNat = C := ⟨_, rfl⟩
  obtain ⟨L, hLd⟩ : ∃ L, Lib.uvarint n = L := ⟨_, rfl⟩
  have hW : mhWr code.toNat d = C ++ L ++ d := by rw [mhWr, hC, ← hn, hLd]
  rw [hW]
  rw [hC] at hL
  rw [hLd] at hD hDp
  have hmk : ∀ W : World, (Instr.makeSlice 47 (.int .i64 ((C.length : Int) + (L.length : Int) + (n : Int))) (.int .i64 ((C.length : Int) + (L.length : Int) + (n : Int)))).run Tryz.prog W = .ok (.slice (some ⟨W.heap.size, 0, none⟩) (C.length + L.length + n) (C.length + L.length + n)) (W.alloc (.cells (madeCells #[.int .u8 0] (C.length + L.length + n)) 5)) := by
    intro W
    have hr := run_make (P := Tryz.prog) W 47 5 i0 (.int .u8 0) Tryz.underlying47 hi hz0 .i64 .i64 (C.length + L.length + n : Nat) (C.length + L.length + n : Nat) (by omega) (by omega) (by rw [hz2]; omega) (by omega)
    have e : ((C.length : Int) + (L.length : Int) + (n : Int)).toNat = C.length + L.length + n := by omega
    simpa [hz1, Value.cells, e] using hr
  have ht0 : (madeCells #[Value.int .u8 0] (C.length + L.length + n)).toList = List.replicate (C.length + L.length + n) (.int .u8 0) := toList_madeCells_one _ _
  obtain ⟨zs, hzs⟩ : ∃ zs, madeCells #[Value.int .u8 0] (C.length + L.length + n) = zs := ⟨_, rfl⟩
  rw [hzs] at hmk ht0
  have hzl : zs.toList.length = C.length + L.length + n := by rw [ht0]; simp
  clear ht0 hzs
  have HN := Lib.hid hn
  have HC := Lib.hid hC
  have HL := Lib.hid hLd
  have HZ := Lib.hid hzl
  clear hn hC hLd hzl
  go_enter Tryz.func35, Tryz.ntmps35
  go_wp2_with fail
  refine (uvarintSize_any code _ h0 h1).mono ?_
  rintro _ w1 ⟨rfl, rfl⟩
  rw [HC.out]
  go_wp2_with fail
  refine (uvarintSize_any (n : Int) _ (by omega) (by omega)).mono ?_
  rintro _ w2 ⟨rfl, rfl⟩
  rw [Int.toNat_natCast, HL.out]
  go_wp2_with fail
  have b0 : Below w.heap.size w (w.alloc (.cells zs 5)) := (Below.refl _ _).alloc (Nat.le_refl _) _
  have B0 : Blk (w.alloc (.cells zs 5)) w.heap.size 5 ([] ++ zs.toList).toArray := by simpa using Blk.new w 5 zs
  generalize w.alloc (.cells zs 5) = W at *
  clear hmk
  have hp1 := putUvarint_any w.heap.size 0 (C.length + L.length + n) (C.length + L.length + n) code.toNat (by omega) W (by rw [HC.out]; omega) (by
    intro j hj; rw [HC.out] at hj; have hzl := HZ.out; rw [Nat.zero_add]; exact blk_some B0 (by simp only [List.nil_append]; omega))
  rw [Int.toNat_of_nonneg h0, HC.out] at hp1
  refine hp1.mono ?_
  clear hp1
  rintro _ w1 ⟨rfl, h⟩
  have b1 : Below w.heap.size w w1 := by rw [h]; exact below_setCells (Nat.le_refl _) _ _ _ b0
  have B1 := blk_mid B0 0 rfl (Lib.byteCells C) (by rw [Lib.byteCells_length]; have hzl := HZ.out; omega)
  rw [← h, List.nil_append, Lib.byteCells_length] at B1
  clear h B0 b0
  go_wp2_with fail
  have hp2 := putUvarint_any w.heap.size C.length (C.length + L.length + n - C.length) (C.length + L.length + n - C.length) n (by omega) w1 (by rw [HL.out]; omega) (by
    intro j hj; rw [HL.out] at hj; have hzl := HZ.out; exact blk_some B1 (by rw [List.length_append, Lib.byteCells_length, List.length_drop]; omega))
  rw [HL.out] at hp2
  refine hp2.mono ?_
  clear hp2
  rintro _ w2 ⟨rfl, h⟩
  have b2 : Below w.heap.size w w2 := by rw [h]; exact below_setCells (Nat.le_refl _) _ _ _ b1
  have B2 := blk_mid B1 C.length (Lib.byteCells_length _) (Lib.byteCells L) (by rw [Lib.byteCells_length, List.length_drop]; have hzl := HZ.out; omega)
  rw [← h, ← Lib.byteCells_append, Lib.byteCells_length] at B2
  clear h B1 b1
  have hbs := hc.old b2
  by_cases hn0 : n = 0
  · subst hn0
    have hcp := fun x y m k => run_copy_none (P := Tryz.prog) w2 47 47 3 5 x y m k 0 c Tryz.underlying47 (by rw [hi]; exact congrArg some hz1) (Nat.zero_min _)
    have hd : d = [] := List.eq_nil_of_length_eq_zero HN.out.symm
    subst hd
    clear HN
    go_wp2_with fail
    go_ret2
    have hzl := HZ.out
    rw [List.append_nil, List.length_append]
    rw [List.drop_of_length_le (by rw [List.length_drop]; omega), List.append_nil] at B2
    exact ⟨rfl, b2, bs_blk B2⟩
  · have hcp := run_copy_cells (P := Tryz.prog) w2 47 47 3 5 w.heap.size (C.length + L.length) (C.length + L.length + n - (C.length + L.length)) (C.length + L.length + n - (C.length + L.length)) ⟨g, o, none⟩ n c (Lib.byteCells d) Tryz.underlying47 (by rw [hi]; exact congrArg some hz1)
      (by rw [Lib.byteCells_length, ← HN.out]; exact (Nat.min_eq_left (by omega)).symm) (by
        intro j v hj
        obtain ⟨hlt, rfl⟩ := List.getElem?_eq_some_iff.1 hj
        rw [Lib.byteCells_length] at hlt
        have := hbs j hlt
        have hadd : (⟨g, o, none⟩ : Addr).add j = ⟨g, o + j, none⟩ := by unfold Addr.add; split <;> simp_all
        rw [hadd, this]
        simp [Lib.byteCells]) (by
        intro j hj
        have hzl := HZ.out
        rw [Lib.byteCells_length, ← HN.out] at hj
        exact (blk_some B2 (by rw [List.length_append, Lib.byteCells_length, List.length_append, List.length_drop, List.length_drop]; omega)).1) (by
        intro j hj
        exact B2.frozen _) (by
        intro v hv
        obtain ⟨x, _, rfl⟩ := List.mem_map.1 hv
        rfl)
    rw [Lib.byteCells_length, ← HN.out, Nat.add_sub_cancel_left] at hcp
    go_wp2_with fail
    go_ret2
    rw [List.length_append, List.length_append, ← HN.out]
    refine ⟨rfl, ?_, ?_⟩
    · exact below_setCells (Nat.le_refl _) _ _ _ b2
    · have B3 := blk_mid B2 (C.length + L.length) (by rw [Lib.byteCells_length, List.length_append]) (Lib.byteCells d) (by have hzl := HZ.out; rw [Lib.byteCells_length, ← HN.out, List.length_drop, List.length_drop]; omega)
      rw [← Lib.byteCells_append, List.drop_of_length_le (by have hzl := HZ.out; rw [Lib.byteCells_length, ← HN.out, List.length_drop, List.length_drop]; omega), List.append_nil] at B3
      exact bs_blk B3
end Go.Proofs.YtcljffldbnoljaaGreatDoor

namespace Go.Proofs.YtcljffldbnoljaaGreatDoor
open Go.RowKit

/-- What spec.ReadVarint comes to. -/
def rvOf (r : UvR) : Value :=
  match r with
  | .ok n s => .tuple #[.int .u64 n, .int .i64 s, .int .i64 0]
  | .ends => .tuple #[.int .u64 0, .int .i64 0, .int .i64 1]
  | .long => .tuple #[.int .u64 0, .int .i64 0, .int .i64 2]
  | .needless => .tuple #[.int .u64 0, .int .i64 0, .int .i64 3]

theorem str_mid (l : List UInt8) {a b n : Nat} (h : b = a + n) : (⟨l.toArray⟩ : ByteArray).extract a b = ⟨((l.drop a).take n).toArray⟩ := by
  subst h
  rw [ByteArray.extract_mk]
  simp [List.take_drop]
theorem ret_tup4 {s t : ByteArray} {a b : Int} {c : Int} {k : Bool} (h : s = t) (hb : a = b) : Ending.returned (.tuple #[.int .u64 c, .string s, .int .i64 a, .bool k]) = .returned (.tuple #[.int .u64 c, .string t, .int .i64 b, .bool k]) := by rw [h, hb]
/-- What spec.ReadMultihash comes to. -/
def smOf (r : Option (Nat × List UInt8 × Nat)) : Value :=
  match r with
  | some (code, d, n) => .tuple #[.int .u64 code, .string ⟨d.toArray⟩, .int .i64 n, .bool true]
  | none => .tuple #[.int .u64 0, .string ⟨#[]⟩, .int .i64 0, .bool false]

end Go.Proofs.YtcljffldbnoljaaGreatDoor

namespace Go.Proofs.YtcljffldbnoljaaGreatDoor
open Go.RowKit

set_option maxRecDepth 100000 in
theorem version_any (c : CidL) (l : List UInt8) (w : World) (hl : l = c.wr) (hc : c.tidy) :
    Calls Tryz.prog 76 #[.agg #[.string ⟨l.toArray⟩]] w fun e w' => e = .returned (.int .u64 c.version) ∧ Below w.heap.size w w' := by
  by_cases h0 : c.version = 0
  · obtain ⟨e, h3, _, _⟩ := wr_v0 hc h0
    rw [h0]
    have hlen : l.length = 34 := by rw [hl, e]; simp [h3]
    have hi0 : ∀ h, ((⟨l.toArray⟩ : ByteArray)[0]'h).toNat = 18 := fun h => by
      have : l[0]? = some 18 := by rw [hl, e]; rfl
      exact congrArg UInt8.toNat (List.getElem?_eq_some_iff.1 this).2
    have hi1 : ∀ h, ((⟨l.toArray⟩ : ByteArray)[1]'h).toNat = 32 := fun h => by
      have : l[1]? = some 32 := by rw [hl, e]; rfl
      exact congrArg UInt8.toNat (List.getElem?_eq_some_iff.1 this).2
    clear e h3 hl h0 hc
    go_enter Tryz.func76, Tryz.ntmps76
    go_wp2_with fail
    go_ret
    exact ⟨rfl, (Below.refl _ _).alloc (Nat.le_refl _) _⟩
  · obtain ⟨e, h1, _, _⟩ := wr_v1 hc h0
    rw [h1]
    have hpos : 0 < l.length := by rw [hl, e]; simp
    have hi0 : ∀ h, ((⟨l.toArray⟩ : ByteArray)[0]'h).toNat = 1 := fun h => by
      have : l[0]? = some 1 := by rw [hl, e]; rfl
      exact congrArg UInt8.toNat (List.getElem?_eq_some_iff.1 this).2
    clear e h1 hl h0 hc
    obtain ⟨t, ht⟩ : ∃ t, ((l.length : Int) == 34) = t := ⟨_, rfl⟩
    cases t
    all_goals go_enter Tryz.func76, Tryz.ntmps76
    all_goals go_wp2_with fail
    all_goals go_ret
    all_goals exact ⟨rfl, (Below.refl _ _).alloc (Nat.le_refl _) _⟩

set_option maxRecDepth 100000 in
theorem cidDefined_any (l : List UInt8) (w : World) (hl : 0 < l.length) :
    Calls Tryz.prog 105 #[.agg #[.string ⟨l.toArray⟩]] w fun e w' => e = .returned (.bool true) ∧ Below w.heap.size w w' := by
  have hne : l.isEmpty = false := by cases l with | nil => simp at hl | cons _ _ => rfl
  clear hl
  go_enter Tryz.func105, Tryz.ntmps105
  go_wp2_with fail
  go_ret
  exact ⟨rfl, (Below.refl _ _).alloc (Nat.le_refl _) _⟩

set_option maxRecDepth 100000 in
theorem cidBytes_any (l : List UInt8) (w : World) (hl : 0 < l.length) (_ : l.length ≤ 2147483647) :
    Calls Tryz.prog 75 #[.agg #[.string ⟨l.toArray⟩]] w fun e w' => ∃ g c, e = .returned (.slice (some ⟨g, 0, none⟩) l.length c) ∧ w.heap.size ≤ g ∧ g < w'.heap.size ∧ l.length ≤ c ∧ Bs w' g 0 l ∧ Below w.heap.size w w' := by
  have hcv := fun W => Lib.run_convert_string_bytes (P := Tryz.prog) W 9 47 5 ⟨l.toArray⟩ Tryz.underlying9 Tryz.underlying47 Tryz.underlying5
  go_enter Tryz.func75, Tryz.ntmps75
  go_wp2_with fail
  refine (cidDefined_any l _ hl).mono ?_
  rintro _ w1 ⟨rfl, b1⟩
  obtain ⟨c1, f1⟩ := bcell b1
  have z1 := b1.size
  have b01 := Old.trans ((Below.refl w.heap.size w).alloc (Nat.le_refl _) (.cells #[.string ⟨l.toArray⟩] 51)) b1
  simp at c1 f1 z1
  have hb := bw_below w1 5 ⟨l.toArray⟩
  have hbs := bw_bs w1 5 ⟨l.toArray⟩
  have hsz := bw_size w1 5 ⟨l.toArray⟩
  have hgc := grownCap_ge w1 (⟨l.toArray⟩ : ByteArray).size 0 5
  go_wp2_with fail
  go_ret
  exact ⟨w1.heap.size, _, rfl, by omega, by rw [hsz]; omega, hgc, hbs, Old.trans b01 hb⟩
end Go.Proofs.YtcljffldbnoljaaGreatDoor

namespace Go.Proofs.YtcljffldbnoljaaGreatDoor
open Go.RowKit

/-- A builder of the call's own that has been written to, or grown. -/
def Bd (B b : Nat) (l : List UInt8) (w : World) : Prop := Lib.BuilderAt 120 5 B b (.pointer (some ⟨b, 0, none⟩)) (Lib.byteCells l) w

theorem ownBlock_ne {w : World} {B n b : Nat} {v : Value} {xs : List Value} {cs : Array Value} (h : w.ownsRow B 5 1 v n xs) (hb : w.heap[b]? = some (.cells cs 120 (0, 0))) : v.ownBlock ≠ some b := by
  rcases h.2 with ⟨rfl, _⟩ | ⟨g, cap, cur, rfl, _, hg, _⟩
  · simp [Value.ownBlock]
  · intro he
    simp only [Value.ownBlock, Option.some.injEq] at he
    subst he
    rw [hb] at hg
    injection hg with hg
    injection hg with _ h2 _
    exact absurd h2 (by decide)

theorem bd_store {B b : Nat} {l : List UInt8} {w w1 : World} {v v1 : Value} (hB : B ≤ b) (hbk : w.heap[b]? = some (.cells #[.pointer (some ⟨b, 0, none⟩), v] 120 (0, 0))) (hv : v.ownBlock ≠ some b)
    (hown : w1.ownsRow B 5 1 v1 l.length (Lib.byteCells l)) (hg : w.grownBy w1 v.ownBlock) (hr : ∀ k, v.ownBlock = some k → B ≤ k) (hBw : B ≤ w.heap.size) :
    Bd B b l (w1.setCell ⟨b, 1, none⟩ v1) ∧ Below B w (w1.setCell ⟨b, 1, none⟩ v1) ∧ w1.cell? ⟨b, 1, none⟩ = some v ∧ w1.frozen? ⟨b, 1, none⟩ = false := by
  have hlt : b < w.heap.size := by
    rcases Nat.lt_or_ge b w.heap.size with h | h
    · exact h
    · rw [Array.getElem?_eq_none h] at hbk; cases hbk
  have hb1 : w1.heap[b]? = some (.cells #[.pointer (some ⟨b, 0, none⟩), v] 120 (0, 0)) := (hg.block b hlt (fun h => hv h.symm)).trans hbk
  have hne := ownBlock_ne hown hb1
  refine ⟨⟨hB, v1, ?_, ?_, hne⟩, ?_, ?_, ?_⟩
  · exact Lib.heap_setCell_same (i := 1) hb1 v1
  · rw [Lib.byteCells_length]
    exact hown.kept (Lib.grownBy_setCell w1 b 1 _) (Or.inr hne)
  · exact ((Below.refl B w).grown hg hBw hr).setCell (p := ⟨b, 1, none⟩) hB _
  · simp [World.cell?, hb1]
  · simp [World.frozen?, hb1]

theorem bd_old {B b : Nat} {l : List UInt8} {w w' : World} (h : Bd B b l w) (hb : Below w.heap.size w w') : Bd B b l w' := by
  obtain ⟨hB, v, hbk, hown, hv⟩ := h
  have hlt : b < w.heap.size := by
    rcases Nat.lt_or_ge b w.heap.size with h | h
    · exact h
    · rw [Array.getElem?_eq_none h] at hbk; cases hbk
  exact ⟨hB, v, (hb.block b hlt).trans hbk, hown.kept (row := some w.heap.size) ⟨hb.os, hb.tape, hb.output, hb.size, fun k hk _ => hb.block k hk⟩ (Or.inr (fun he => by have := (hown.lt _ he).2; omega)), hv⟩
theorem isSizeB : (Tryz.prog.info? 120).map (·.size) = some 2 := by kernel_rfl
set_option maxRecDepth 100000 in
theorem copyCheck_any (b : Nat) (w : World) (h : w.cell? ⟨b, 0, none⟩ = some (.pointer (some ⟨b, 0, none⟩))) :
    Calls Tryz.prog 69 #[.pointer (some ⟨b, 0, none⟩)] w fun e w' => e = .returned (.tuple #[]) ∧ w = w' := by
  obtain ⟨j, hj, _⟩ := Option.map_eq_some_iff.1 isSizeB
  have hne := fun W => Lib.run_neq_ptr_same (P := Tryz.prog) W ⟨b, 0, none⟩ Tryz.underlying118 hj
  go_enter Tryz.func69, Tryz.ntmps69
  go_wp2_with fail
  go_end0
  exact ⟨rfl, rfl⟩

set_option maxRecDepth 100000 in
set_option maxHeartbeats 1000000 in
theorem writeByte_any (B b : Nat) (l : List UInt8) (x : UInt8) (c : Int) (w : World) (hc : c = (x.toNat : Int)) (h : Bd B b l w) (hBw : B ≤ w.heap.size) (hl : l.length ≤ 1000000000) :
    Calls Tryz.prog 52 #[.pointer (some ⟨b, 0, none⟩), .int .u8 c] w fun e w' => e = .returned .nilIface ∧ Bd B b (l ++ [x]) w' ∧ Below B w w' := by
  obtain ⟨i0, hi, hz0, hz1, hz2⟩ := info_parts info5
  obtain ⟨hB, v, hbk, hown, hv⟩ := h
  rw [Lib.byteCells_length] at hown
  have q0 : w.cell? ⟨b, 0, none⟩ = some (.pointer (some ⟨b, 0, none⟩)) := by simp [World.cell?, hbk]
  have q1 : w.cell? ⟨b, 1, none⟩ = some v := by simp [World.cell?, hbk]
  have hr := fun k (hk : v.ownBlock = some k) => (hown.lt k hk).1
  have HK := Lib.hid (And.intro hbk (And.intro hv (And.intro hr (And.intro hown hc))))
  clear hbk hv hr hown hc
  go_enter Tryz.func52, Tryz.ntmps52
  go_wp2_with fail
  refine (copyCheck_any b w q0).mono ?_
  rintro _ w1 ⟨rfl, rfl⟩
  go_wp2_with (at_builtin; go_must (refine wpList_append_byte w rfl (.tmp 11) (.tmp 13) 47 rfl B 5 i0 Tryz.underlying47 hi hz0 hz1 hz2 v l rfl HK.out.2.2.2.1 c x HK.out.2.2.2.2 rfl (by omega) hBw ?_); intro v1 w1 hown1 hg1; obtain ⟨hbd, hbel, q11, f11⟩ := bd_store hB HK.out.1 HK.out.2.1 hown1 hg1 HK.out.2.2.1 hBw; obtain ⟨g1, cap1, hv1, _⟩ := own_form hown1 (by simp); subst hv1)
  go_ret
  rw [List.length_append, List.length_singleton] at hbd hbel
  exact ⟨rfl, hbd, hbel⟩

set_option maxRecDepth 100000 in
set_option maxHeartbeats 1000000 in
theorem bdWrite_any (B b g o n c : Nat) (l s : List UInt8) (w : World) (hn : n = s.length) (hc : Bs w g o s) (_ : g ≠ b) (h : Bd B b l w) (hBw : B ≤ w.heap.size) (hl : l.length + s.length ≤ 1000000000) (hl0 : l ≠ []) :
    Calls Tryz.prog 53 #[.pointer (some ⟨b, 0, none⟩), .slice (some ⟨g, o, none⟩) n c] w fun e w' => e = .returned (.tuple #[.int .i64 n, .nilIface]) ∧ Bd B b (l ++ s) w' ∧ Below B w w' := by
  obtain ⟨i0, hi, hz0, hz1, hz2⟩ := info_parts info5
  obtain ⟨hB, v, hbk, hown, hv⟩ := h
  rw [Lib.byteCells_length] at hown
  have q0 : w.cell? ⟨b, 0, none⟩ = some (.pointer (some ⟨b, 0, none⟩)) := by simp [World.cell?, hbk]
  have q1 : w.cell? ⟨b, 1, none⟩ = some v := by simp [World.cell?, hbk]
  have hr := fun k (hk : v.ownBlock = some k) => (hown.lt k hk).1
  have hsrc : ∀ j u, (Lib.byteCells s)[j]? = some u → w.cell? ((⟨g, o, none⟩ : Addr).add j) = some u := by
    intro j u hj
    obtain ⟨hlt, rfl⟩ := List.getElem?_eq_some_iff.1 hj
    rw [Lib.byteCells_length] at hlt
    have := hc j hlt
    have hadd : (⟨g, o, none⟩ : Addr).add j = ⟨g, o + j, none⟩ := by unfold Addr.add; split <;> simp_all
    rw [hadd, this]
    simp [Lib.byteCells]
  have h1c : ∀ u ∈ Lib.byteCells s, u.oneCell' = true := by
    intro u hu
    obtain ⟨x, _, rfl⟩ := List.mem_map.1 hu
    rfl
  have hne : l ++ s ≠ [] := by simp [hl0]
  have HK := Lib.hid (And.intro hbk (And.intro hv (And.intro hr (And.intro hown (And.intro hsrc (And.intro h1c (And.intro hn hne)))))))
  clear hbk hv hr hown hsrc h1c hn hc hne
  go_enter Tryz.func53, Tryz.ntmps53
  go_wp2_with fail
  refine (copyCheck_any b w q0).mono ?_
  rintro _ w1 ⟨rfl, rfl⟩
  go_wp2_with (at_builtin; go_must (refine wpList_append_own w rfl (.tmp 12) (.tmp 13) 47 rfl B 5 i0 (.int .u8 0) 1 1 Tryz.underlying47 hi hz0 hz1 hz2 rfl (by decide) v l.length (Lib.byteCells l) rfl HK.out.2.2.2.1 ⟨g, o, none⟩ n c (Lib.byteCells s) rfl (by rw [Lib.byteCells_length, Nat.mul_one]; exact HK.out.2.2.2.2.2.2.1.symm) HK.out.2.2.2.2.1 HK.out.2.2.2.2.2.1 (by have := HK.out.2.2.2.2.2.2.1; unfold maxLen; omega) (by have := HK.out.2.2.2.2.2.2.1; omega) hBw ?_); intro v1 w1 hown1 hg1 _; rw [HK.out.2.2.2.2.2.2.1, ← List.length_append, ← Lib.byteCells_append] at hown1; obtain ⟨hbd, hbel, q11, f11⟩ := bd_store hB HK.out.1 HK.out.2.1 hown1 hg1 HK.out.2.2.1 hBw; obtain ⟨g1, cap1, hv1, _⟩ := own_form hown1 HK.out.2.2.2.2.2.2.2; subst hv1)
  go_ret2
  rw [List.length_append] at hbd hbel
  exact ⟨rfl, hbd, hbel⟩

set_option maxRecDepth 100000 in
set_option maxHeartbeats 2000000 in
theorem newCidV1_any (g o n c : Nat) (codec : Int) (m : List UInt8) (w : World) (h0 : 0 ≤ codec) (h1 : codec < 18446744073709551616) (hn : n = m.length) (hc : Bs w g o m) (hm : n ≤ 1000000) (hg : g < w.heap.size) :
    Calls Tryz.prog 37 #[.int .u64 codec, .slice (some ⟨g, o, none⟩) n c] w fun e w' => e = .returned (.agg #[.string ⟨(Lib.uvarint 1 ++ Lib.uvarint codec.toNat ++ m).toArray⟩]) ∧ Below w.heap.size w w' := by
  have hL := Lib.uvarint_length64 (x := codec.toNat) (by omega)
  obtain ⟨C, hC⟩ : ∃ C, Lib.uvarint codec.toNat = C := ⟨_, rfl⟩
  rw [hC] at hL ⊢
  rw [uv1]
  have HC := Lib.hid hC
  have HN := Lib.hid hn
  clear hC hn
  go_enter Tryz.func37, Tryz.ntmps37
  go_wp2_with fail
  refine (uvarintSize_any codec _ h0 h1).mono ?_
  rintro _ w1 ⟨rfl, rfl⟩
  rw [HC.out]
  go_wp2_with fail
  obtain ⟨W, hW⟩ : ∃ W, (w.alloc (.cells #[.string ⟨#[]⟩] 51)).alloc (.cells #[.pointer none, .slice none 0 0] 120) = W := ⟨_, rfl⟩
  have b0 : Below w.heap.size w W := by rw [← hW]; exact Old.alloc (Old.alloc (Below.refl _ _) _) _
  have BX : Blk W w.heap.size 51 #[.string ⟨#[]⟩] := by rw [← hW]; exact (Blk.new _ _ _).alloc _
  have Bb : Blk W (w.heap.size + 1) 120 #[.pointer none, .slice none 0 0] := by
    rw [← hW]
    have := Blk.new (w.alloc (.cells #[.string ⟨#[]⟩] 51)) 120 #[.pointer none, .slice none 0 0]
    simpa using this
  rw [hW]
  clear hW
  have hgw := Tryz.Builder_Grow_fresh_cap (w.heap.size + 1) (w.heap.size + 1) (1 + C.length + n) W (Nat.le_refl _) Bb (Nat.le_of_lt Bb.lt) (by omega)
  rw [show ((1 + C.length + n : Nat) : Int) = 1 + (C.length : Int) + (n : Int) from by push_cast; rfl] at hgw
  refine hgw.mono ?_
  clear hgw
  have zb := Bb.lt
  rintro _ w2 ⟨rfl, ⟨hbd, b2⟩, _⟩
  have BX2 := BX.below b2 (Nat.lt_succ_self _)
  have b02 : Below w.heap.size w w2 := b0.trans (b2.mono (Nat.le_succ _))
  have z2 : w.heap.size + 1 < w2.heap.size := Nat.lt_of_lt_of_le zb b2.size
  have HB := Lib.hid (show Bd (w.heap.size + 1) (w.heap.size + 1) [] w2 from hbd)
  clear hbd BX Bb b0 b2 zb
  go_wp2_with fail
  refine (writeByte_any (w.heap.size + 1) (w.heap.size + 1) [] 1 1 w2 rfl HB.out (by omega) (by simp)).mono ?_
  rintro _ w3 ⟨rfl, hbd3, b3⟩
  have BX3 := BX2.below b3 (Nat.lt_succ_self _)
  have b03 : Below w.heap.size w w3 := b02.trans (b3.mono (Nat.le_succ _))
  have z3 : w.heap.size + 1 < w3.heap.size := Nat.lt_of_lt_of_le z2 b3.size
  rw [List.nil_append] at hbd3
  have HB3 := Lib.hid hbd3
  clear hbd3 BX2 b02 b3 HB
  go_wp2_with fail
  obtain ⟨N, hN⟩ : ∃ N, w3.heap.size = N := ⟨_, rfl⟩
  obtain ⟨zs, hzs⟩ : ∃ zs : List Value, [.int .u8 0, .int .u8 0, .int .u8 0, .int .u8 0, .int .u8 0, .int .u8 0, .int .u8 0, .int .u8 0, .int .u8 0, .int .u8 0] = zs := ⟨_, rfl⟩
  obtain ⟨V, hV⟩ : ∃ V, w3.alloc (.cells #[.int .u8 0, .int .u8 0, .int .u8 0, .int .u8 0, .int .u8 0, .int .u8 0, .int .u8 0, .int .u8 0, .int .u8 0, .int .u8 0] 123) = V := ⟨_, rfl⟩
  have bV : Below N w3 V := by rw [← hV, ← hN]; exact Old.alloc (Below.refl _ _) _
  have BN : Blk V N 123 ([] ++ zs).toArray := by
    rw [← hV, ← hN, ← hzs]
    exact Blk.new w3 _ _
  have hzl : zs.length = 10 := by rw [← hzs]; rfl
  rw [hV, hN]
  clear hV hzs
  have hp := putUvarint_any N 0 10 10 codec.toNat (by omega) V (by rw [HC.out]; exact hL) (by
    intro j hj; rw [HC.out] at hj; rw [Nat.zero_add]; exact blk_some BN (by simp only [List.nil_append]; omega))
  rw [Int.toNat_of_nonneg h0, HC.out] at hp
  refine hp.mono ?_
  clear hp
  rintro _ w5 ⟨rfl, h5⟩
  have b35 : Below N w3 w5 := by rw [h5]; exact below_setCells (Nat.le_refl _) _ _ _ bV
  have B5 := blk_mid BN 0 rfl (Lib.byteCells C) (by rw [Lib.byteCells_length]; omega)
  rw [← h5, List.nil_append, Lib.byteCells_length] at B5
  have hbs5 : Bs w5 N 0 C := by
    intro j hj
    rw [Nat.zero_add, B5.cell]
    simp only [List.getElem?_toArray]
    rw [List.getElem?_append_left (by rw [Lib.byteCells_length]; exact hj)]
    simp [Lib.byteCells, hj]
  have hLi : (C.length : Int) ≤ 10 := by omega
  have b35' : Below w3.heap.size w3 w5 := by rw [hN]; exact b35
  have hbd5 : Bd (w.heap.size + 1) (w.heap.size + 1) [1] w5 := bd_old HB3.out b35'
  have BX5 := BX3.old b35'
  have b05 : Below w.heap.size w w5 := Old.trans b03 b35'
  have z5 : N < w5.heap.size := B5.lt
  have zN : w.heap.size + 1 < N := by rw [← hN]; exact z3
  have HB5 := Lib.hid hbd5
  clear h5 B5 BN bV b35 hN b35' BX3 b03 hbd5
  go_wp2_with fail
  refine (bdWrite_any (w.heap.size + 1) (w.heap.size + 1) N 0 C.length 10 [1] C w5 rfl hbs5 (by omega) HB5.out (by omega) (by simp; omega) (by simp)).mono ?_
  rintro _ w6 ⟨rfl, hbd6, b6⟩
  have BX6 := BX5.below b6 (Nat.lt_succ_self _)
  have b06 : Below w.heap.size w w6 := b05.trans (b6.mono (Nat.le_succ _))
  have z6 : w.heap.size + 1 < w6.heap.size := Nat.lt_of_lt_of_le (by omega) b6.size
  have HB6 := Lib.hid hbd6
  clear hbd6 hbs5 HB5 b05 BX5 b6
  have hm6 : Bs w6 g o m := hc.below b06 hg
  go_wp2_with fail
  refine (bdWrite_any (w.heap.size + 1) (w.heap.size + 1) g o n c ([1] ++ C) m w6 HN.out hm6 (by omega) HB6.out (by omega) (by have := HN.out; simp; omega) (by simp)).mono ?_
  rintro _ w7 ⟨rfl, hbd7, b7⟩
  have BX7 := BX6.below b7 (Nat.lt_succ_self _)
  have b07 : Below w.heap.size w w7 := b06.trans (b7.mono (Nat.le_succ _))
  have z7 : w.heap.size + 1 < w7.heap.size := Nat.lt_of_lt_of_le z6 b7.size
  have HB7 := Lib.hid hbd7
  clear hbd7 hm6 HB6 b06 BX6 b7
  go_wp2_with fail
  refine (Tryz.Builder_String_any (w.heap.size + 1) (w.heap.size + 1) ([1] ++ C ++ m) w7 (.inr HB7.out) (by omega)).mono ?_
  rintro _ w8 ⟨rfl, b8⟩
  have BX8 := BX7.below b8 (Nat.lt_succ_self _)
  have b08 : Below w.heap.size w w8 := b07.trans (b8.mono (Nat.le_succ _))
  have q8 : w8.cell? ⟨w.heap.size, 0, none⟩ = some (.string ⟨#[]⟩) := BX8.cell 0
  have f8 := BX8.frozen 0
  clear BX7 b07 b8 HB7
  go_wp2_with fail
  refine bodyPost_ret (ret_cell rfl rfl (BX8.set_ 0 (.string ⟨([1] ++ C ++ m).toArray⟩)) Tryz.underlying51 (by kernel_rfl)) rfl ?_
  exact ⟨rfl, b08.setCell (p := ⟨w.heap.size, 0, none⟩) (Nat.le_refl _) _⟩
end Go.Proofs.YtcljffldbnoljaaGreatDoor
