/-
  strings.Builder by hand (copyCheck, WriteByte, Write on one that has been grown), and cid.NewCidV1. Conditions: as each contract says.
-/
import Derived.Test.YtdfhfaeeejijcaaDoorCdW
import Derived.Lib.Builder
import Derived.Lib.BufferWrite
namespace Go.Proofs.YtdfhfaeeejijcaaDoor
open Go.RowKit

/-- A builder of the call's own that has been written to, or grown. -/
def Bd (B b : Nat) (l : List UInt8) (w : World) : Prop := Lib.BuilderAt 125 5 B b (.pointer (some ⟨b, 0, none⟩)) (Lib.byteCells l) w

theorem ownBlock_ne {w : World} {B n b : Nat} {v : Value} {xs : List Value} {cs : Array Value} (h : w.ownsRow B 5 1 v n xs) (hb : w.heap[b]? = some (.cells cs 125 (0, 0))) : v.ownBlock ≠ some b := by
  rcases h.2 with ⟨rfl, _⟩ | ⟨g, cap, cur, rfl, _, hg, _⟩
  · simp [Value.ownBlock]
  · intro he
    simp only [Value.ownBlock, Option.some.injEq] at he
    subst he
    rw [hb] at hg
    injection hg with hg
    injection hg with _ h2 _
    exact absurd h2 (by decide)

theorem bd_store {B b : Nat} {l : List UInt8} {w w1 : World} {v v1 : Value} (hB : B ≤ b) (hbk : w.heap[b]? = some (.cells #[.pointer (some ⟨b, 0, none⟩), v] 125 (0, 0))) (hv : v.ownBlock ≠ some b)
    (hown : w1.ownsRow B 5 1 v1 l.length (Lib.byteCells l)) (hg : w.grownBy w1 v.ownBlock) (hr : ∀ k, v.ownBlock = some k → B ≤ k) (hBw : B ≤ w.heap.size) :
    Bd B b l (w1.setCell ⟨b, 1, none⟩ v1) ∧ Below B w (w1.setCell ⟨b, 1, none⟩ v1) ∧ w1.cell? ⟨b, 1, none⟩ = some v ∧ w1.frozen? ⟨b, 1, none⟩ = false := by
  have hlt : b < w.heap.size := by
    rcases Nat.lt_or_ge b w.heap.size with h | h
    · exact h
    · rw [Array.getElem?_eq_none h] at hbk; cases hbk
  have hb1 : w1.heap[b]? = some (.cells #[.pointer (some ⟨b, 0, none⟩), v] 125 (0, 0)) := (hg.block b hlt (fun h => hv h.symm)).trans hbk
  have hne := ownBlock_ne hown hb1
  refine ⟨⟨hB, v1, ?_, ?_, hne⟩, ?_, ?_, ?_⟩
  · exact Lib.heap_setCell_same (i := 1) hb1 v1
  · rw [Lib.byteCells_length]
    exact hown.kept (Lib.grownBy_setCell w1 b 1 _) (Or.inr hne)
  · exact ((Below.refl B w).grown hg hBw hr).setCell (p := ⟨b, 1, none⟩) hB _
  · simp [World.cell?, hb1]
  · simp [World.frozen?, hb1]

theorem bd_old {B b : Nat} {l : List UInt8} {w w' : World} (h : Bd B b l w) (hb : Below w.heap.size w w') : Bd B b l w' := by
  obtain ⟨hB, v, hbk, hown, hv⟩ := h
  have hlt : b < w.heap.size := by
    rcases Nat.lt_or_ge b w.heap.size with h | h
    · exact h
    · rw [Array.getElem?_eq_none h] at hbk; cases hbk
  exact ⟨hB, v, (hb.block b hlt).trans hbk, hown.kept (row := some w.heap.size) ⟨hb.os, hb.tape, hb.output, hb.size, fun k hk _ => hb.block k hk⟩ (Or.inr (fun he => by have := (hown.lt _ he).2; omega)), hv⟩
theorem isSizeB : (Tryd.prog.info? 125).map (·.size) = some 2 := by kernel_rfl
set_option maxRecDepth 100000 in
theorem copyCheck_any (b : Nat) (w : World) (h : w.cell? ⟨b, 0, none⟩ = some (.pointer (some ⟨b, 0, none⟩))) :
    Calls Tryd.prog 63 #[.pointer (some ⟨b, 0, none⟩)] w fun e w' => e = .returned (.tuple #[]) ∧ w = w' := by
  obtain ⟨j, hj, _⟩ := Option.map_eq_some_iff.1 isSizeB
  have hne := fun W => Lib.run_neq_ptr_same (P := Tryd.prog) W ⟨b, 0, none⟩ Tryd.underlying123 hj
  go_enter Tryd.func63, Tryd.ntmps63
  go_wp2_with fail
  go_end0
  exact ⟨rfl, rfl⟩

set_option maxRecDepth 100000 in
set_option maxHeartbeats 1000000 in
theorem writeByte_any (B b : Nat) (l : List UInt8) (x : UInt8) (c : Int) (w : World) (hc : c = (x.toNat : Int)) (h : Bd B b l w) (hBw : B ≤ w.heap.size) (hl : l.length ≤ 1000000000) :
    Calls Tryd.prog 53 #[.pointer (some ⟨b, 0, none⟩), .int .u8 c] w fun e w' => e = .returned .nilIface ∧ Bd B b (l ++ [x]) w' ∧ Below B w w' := by
  obtain ⟨i0, hi, hz0, hz1, hz2⟩ := info_parts info5
  obtain ⟨hB, v, hbk, hown, hv⟩ := h
  rw [Lib.byteCells_length] at hown
  have q0 : w.cell? ⟨b, 0, none⟩ = some (.pointer (some ⟨b, 0, none⟩)) := by simp [World.cell?, hbk]
  have q1 : w.cell? ⟨b, 1, none⟩ = some v := by simp [World.cell?, hbk]
  have hr := fun k (hk : v.ownBlock = some k) => (hown.lt k hk).1
  have HK := Lib.hid (And.intro hbk (And.intro hv (And.intro hr (And.intro hown hc))))
  clear hbk hv hr hown hc
  go_enter Tryd.func53, Tryd.ntmps53
  go_wp2_with fail
  refine (copyCheck_any b w q0).mono ?_
  rintro _ w1 ⟨rfl, rfl⟩
  go_wp2_with (at_builtin; go_must (refine wpList_append_byte w rfl (.tmp 11) (.tmp 13) 24 rfl B 5 i0 Tryd.underlying24 hi hz0 hz1 hz2 v l rfl HK.out.2.2.2.1 c x HK.out.2.2.2.2 rfl (by omega) hBw ?_); intro v1 w1 hown1 hg1; obtain ⟨hbd, hbel, q11, f11⟩ := bd_store hB HK.out.1 HK.out.2.1 hown1 hg1 HK.out.2.2.1 hBw; obtain ⟨g1, cap1, hv1, _⟩ := own_form hown1 (by simp); subst hv1)
  go_ret
  rw [List.length_append, List.length_singleton] at hbd hbel
  exact ⟨rfl, hbd, hbel⟩

set_option maxRecDepth 100000 in
set_option maxHeartbeats 1000000 in
theorem bdWrite_any (B b g o n c : Nat) (l s : List UInt8) (w : World) (hn : n = s.length) (hc : Bs w g o s) (_ : g ≠ b) (h : Bd B b l w) (hBw : B ≤ w.heap.size) (hl : l.length + s.length ≤ 1000000000) (hl0 : l ≠ []) :
    Calls Tryd.prog 54 #[.pointer (some ⟨b, 0, none⟩), .slice (some ⟨g, o, none⟩) n c] w fun e w' => e = .returned (.tuple #[.int .i64 n, .nilIface]) ∧ Bd B b (l ++ s) w' ∧ Below B w w' := by
  obtain ⟨i0, hi, hz0, hz1, hz2⟩ := info_parts info5
  obtain ⟨hB, v, hbk, hown, hv⟩ := h
  rw [Lib.byteCells_length] at hown
  have q0 : w.cell? ⟨b, 0, none⟩ = some (.pointer (some ⟨b, 0, none⟩)) := by simp [World.cell?, hbk]
  have q1 : w.cell? ⟨b, 1, none⟩ = some v := by simp [World.cell?, hbk]
  have hr := fun k (hk : v.ownBlock = some k) => (hown.lt k hk).1
  have hsrc : ∀ j u, (Lib.byteCells s)[j]? = some u → w.cell? ((⟨g, o, none⟩ : Addr).add j) = some u := by
    intro j u hj
    obtain ⟨hlt, rfl⟩ := List.getElem?_eq_some_iff.1 hj
    rw [Lib.byteCells_length] at hlt
    have := hc j hlt
    have hadd : (⟨g, o, none⟩ : Addr).add j = ⟨g, o + j, none⟩ := by unfold Addr.add; split <;> simp_all
    rw [hadd, this]
    simp [Lib.byteCells]
  have h1c : ∀ u ∈ Lib.byteCells s, u.oneCell' = true := by
    intro u hu
    obtain ⟨x, _, rfl⟩ := List.mem_map.1 hu
    rfl
  have hne : l ++ s ≠ [] := by simp [hl0]
  have HK := Lib.hid (And.intro hbk (And.intro hv (And.intro hr (And.intro hown (And.intro hsrc (And.intro h1c (And.intro hn hne)))))))
  clear hbk hv hr hown hsrc h1c hn hc hne
  go_enter Tryd.func54, Tryd.ntmps54
  go_wp2_with fail
  refine (copyCheck_any b w q0).mono ?_
  rintro _ w1 ⟨rfl, rfl⟩
  go_wp2_with (at_builtin; go_must (refine wpList_append_own w rfl (.tmp 12) (.tmp 13) 24 rfl B 5 i0 (.int .u8 0) 1 1 Tryd.underlying24 hi hz0 hz1 hz2 rfl (by decide) v l.length (Lib.byteCells l) rfl HK.out.2.2.2.1 ⟨g, o, none⟩ n c (Lib.byteCells s) rfl (by rw [Lib.byteCells_length, Nat.mul_one]; exact HK.out.2.2.2.2.2.2.1.symm) HK.out.2.2.2.2.1 HK.out.2.2.2.2.2.1 (by have := HK.out.2.2.2.2.2.2.1; unfold maxLen; omega) (by have := HK.out.2.2.2.2.2.2.1; omega) hBw ?_); intro v1 w1 hown1 hg1 _; rw [HK.out.2.2.2.2.2.2.1, ← List.length_append, ← Lib.byteCells_append] at hown1; obtain ⟨hbd, hbel, q11, f11⟩ := bd_store hB HK.out.1 HK.out.2.1 hown1 hg1 HK.out.2.2.1 hBw; obtain ⟨g1, cap1, hv1, _⟩ := own_form hown1 HK.out.2.2.2.2.2.2.2; subst hv1)
  go_ret2
  rw [List.length_append] at hbd hbel
  exact ⟨rfl, hbd, hbel⟩

set_option maxRecDepth 100000 in
set_option maxHeartbeats 2000000 in
theorem newCidV1_any (g o n c : Nat) (codec : Int) (m : List UInt8) (w : World) (h0 : 0 ≤ codec) (h1 : codec < 18446744073709551616) (hn : n = m.length) (hc : Bs w g o m) (hm : n ≤ 1000000) (hg : g < w.heap.size) :
    Calls Tryd.prog 39 #[.int .u64 codec, .slice (some ⟨g, o, none⟩) n c] w fun e w' => e = .returned (.agg #[.string ⟨(Lib.uvarint 1 ++ Lib.uvarint codec.toNat ++ m).toArray⟩]) ∧ Below w.heap.size w w' := by
  have hL := Lib.uvarint_length64 (x := codec.toNat) (by omega)
  obtain ⟨C, hC⟩ : ∃ C, Lib.uvarint codec.toNat = C := ⟨_, rfl⟩
  rw [hC] at hL ⊢
  rw [uv1]
  have HC := Lib.hid hC
  have HN := Lib.hid hn
  clear hC hn
  go_enter Tryd.func39, Tryd.ntmps39
  go_wp2_with fail
  refine (uvarintSize_any codec _ h0 h1).mono ?_
  rintro _ w1 ⟨rfl, rfl⟩
  rw [HC.out]
  go_wp2_with fail
  obtain ⟨W, hW⟩ : ∃ W, (w.alloc (.cells #[.string ⟨#[]⟩] 58)).alloc (.cells #[.pointer none, .slice none 0 0] 125) = W := ⟨_, rfl⟩
  have b0 : Below w.heap.size w W := by rw [← hW]; exact Old.alloc (Old.alloc (Below.refl _ _) _) _
  have BX : Blk W w.heap.size 58 #[.string ⟨#[]⟩] := by rw [← hW]; exact (Blk.new _ _ _).alloc _
  have Bb : Blk W (w.heap.size + 1) 125 #[.pointer none, .slice none 0 0] := by
    rw [← hW]
    have := Blk.new (w.alloc (.cells #[.string ⟨#[]⟩] 58)) 125 #[.pointer none, .slice none 0 0]
    simpa using this
  rw [hW]
  clear hW
  have hgw := Tryd.Builder_Grow_fresh_cap (w.heap.size + 1) (w.heap.size + 1) (1 + C.length + n) W (Nat.le_refl _) Bb (Nat.le_of_lt Bb.lt) (by omega)
  rw [show ((1 + C.length + n : Nat) : Int) = 1 + (C.length : Int) + (n : Int) from by push_cast; rfl] at hgw
  refine hgw.mono ?_
  clear hgw
  have zb := Bb.lt
  rintro _ w2 ⟨rfl, ⟨hbd, b2⟩, _⟩
  have BX2 := BX.below b2 (Nat.lt_succ_self _)
  have b02 : Below w.heap.size w w2 := b0.trans (b2.mono (Nat.le_succ _))
  have z2 : w.heap.size + 1 < w2.heap.size := Nat.lt_of_lt_of_le zb b2.size
  have HB := Lib.hid (show Bd (w.heap.size + 1) (w.heap.size + 1) [] w2 from hbd)
  clear hbd BX Bb b0 b2 zb
  go_wp2_with fail
  refine (writeByte_any (w.heap.size + 1) (w.heap.size + 1) [] 1 1 w2 rfl HB.out (by omega) (by simp)).mono ?_
  rintro _ w3 ⟨rfl, hbd3, b3⟩
  have BX3 := BX2.below b3 (Nat.lt_succ_self _)
  have b03 : Below w.heap.size w w3 := b02.trans (b3.mono (Nat.le_succ _))
  have z3 : w.heap.size + 1 < w3.heap.size := Nat.lt_of_lt_of_le z2 b3.size
  rw [List.nil_append] at hbd3
  have HB3 := Lib.hid hbd3
  clear hbd3 BX2 b02 b3 HB
  go_wp2_with fail
  obtain ⟨N, hN⟩ : ∃ N, w3.heap.size = N := ⟨_, rfl⟩
  obtain ⟨zs, hzs⟩ : ∃ zs : List Value, [.int .u8 0, .int .u8 0, .int .u8 0, .int .u8 0, .int .u8 0, .int .u8 0, .int .u8 0, .int .u8 0, .int .u8 0, .int .u8 0] = zs := ⟨_, rfl⟩
  obtain ⟨V, hV⟩ : ∃ V, w3.alloc (.cells #[.int .u8 0, .int .u8 0, .int .u8 0, .int .u8 0, .int .u8 0, .int .u8 0, .int .u8 0, .int .u8 0, .int .u8 0, .int .u8 0] 128) = V := ⟨_, rfl⟩
  have bV : Below N w3 V := by rw [← hV, ← hN]; exact Old.alloc (Below.refl _ _) _
  have BN : Blk V N 128 ([] ++ zs).toArray := by
    rw [← hV, ← hN, ← hzs]
    exact Blk.new w3 _ _
  have hzl : zs.length = 10 := by rw [← hzs]; rfl
  rw [hV, hN]
  clear hV hzs
  have hp := putUvarint_any N 0 10 10 codec.toNat (by omega) V (by rw [HC.out]; exact hL) (by
    intro j hj; rw [HC.out] at hj; rw [Nat.zero_add]; exact blk_some BN (by simp only [List.nil_append]; omega))
  rw [Int.toNat_of_nonneg h0, HC.out] at hp
  refine hp.mono ?_
  clear hp
  rintro _ w5 ⟨rfl, h5⟩
  have b35 : Below N w3 w5 := by rw [h5]; exact below_setCells (Nat.le_refl _) _ _ _ bV
  have B5 := blk_mid BN 0 rfl (Lib.byteCells C) (by rw [Lib.byteCells_length]; omega)
  rw [← h5, List.nil_append, Lib.byteCells_length] at B5
  have hbs5 : Bs w5 N 0 C := by
    intro j hj
    rw [Nat.zero_add, B5.cell]
    simp only [List.getElem?_toArray]
    rw [List.getElem?_append_left (by rw [Lib.byteCells_length]; exact hj)]
    simp [Lib.byteCells, hj]
  have hLi : (C.length : Int) ≤ 10 := by omega
  have b35' : Below w3.heap.size w3 w5 := by rw [hN]; exact b35
  have hbd5 : Bd (w.heap.size + 1) (w.heap.size + 1) [1] w5 := bd_old HB3.out b35'
  have BX5 := BX3.old b35'
  have b05 : Below w.heap.size w w5 := Old.trans b03 b35'
  have z5 : N < w5.heap.size := B5.lt
  have zN : w.heap.size + 1 < N := by rw [← hN]; exact z3
  have HB5 := Lib.hid hbd5
  clear h5 B5 BN bV b35 hN b35' BX3 b03 hbd5
  go_wp2_with fail
  refine (bdWrite_any (w.heap.size + 1) (w.heap.size + 1) N 0 C.length 10 [1] C w5 rfl hbs5 (by omega) HB5.out (by omega) (by simp; omega) (by simp)).mono ?_
  rintro _ w6 ⟨rfl, hbd6, b6⟩
  have BX6 := BX5.below b6 (Nat.lt_succ_self _)
  have b06 : Below w.heap.size w w6 := b05.trans (b6.mono (Nat.le_succ _))
  have z6 : w.heap.size + 1 < w6.heap.size := Nat.lt_of_lt_of_le (by omega) b6.size
  have HB6 := Lib.hid hbd6
  clear hbd6 hbs5 HB5 b05 BX5 b6
  have hm6 : Bs w6 g o m := hc.below b06 hg
  go_wp2_with fail
  refine (bdWrite_any (w.heap.size + 1) (w.heap.size + 1) g o n c ([1] ++ C) m w6 HN.out hm6 (by omega) HB6.out (by omega) (by have := HN.out; simp; omega) (by simp)).mono ?_
  rintro _ w7 ⟨rfl, hbd7, b7⟩
  have BX7 := BX6.below b7 (Nat.lt_succ_self _)
  have b07 : Below w.heap.size w w7 := b06.trans (b7.mono (Nat.le_succ _))
  have z7 : w.heap.size + 1 < w7.heap.size := Nat.lt_of_lt_of_le z6 b7.size
  have HB7 := Lib.hid hbd7
  clear hbd7 hm6 HB6 b06 BX6 b7
  go_wp2_with fail
  refine (Tryd.Builder_String_any (w.heap.size + 1) (w.heap.size + 1) ([1] ++ C ++ m) w7 (.inr HB7.out) (by omega)).mono ?_
  rintro _ w8 ⟨rfl, b8⟩
  have BX8 := BX7.below b8 (Nat.lt_succ_self _)
  have b08 : Below w.heap.size w w8 := b07.trans (b8.mono (Nat.le_succ _))
  have q8 : w8.cell? ⟨w.heap.size, 0, none⟩ = some (.string ⟨#[]⟩) := BX8.cell 0
  have f8 := BX8.frozen 0
  clear BX7 b07 b8 HB7
  go_wp2_with fail
  refine bodyPost_ret (ret_cell rfl rfl (BX8.set_ 0 (.string ⟨([1] ++ C ++ m).toArray⟩)) Tryd.underlying58 (by kernel_rfl)) rfl ?_
  exact ⟨rfl, b08.setCell (p := ⟨w.heap.size, 0, none⟩) (Nat.le_refl _) _⟩
end Go.Proofs.YtdfhfaeeejijcaaDoor
