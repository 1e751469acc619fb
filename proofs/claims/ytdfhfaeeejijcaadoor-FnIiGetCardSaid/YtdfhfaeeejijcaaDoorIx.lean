/-
  index.newRecordFromCid, (*InsertionIndex).InsertNoReplace, NewInsertionIndex, getRecord, Get; impl.found: their walks. Conditions: as each contract says.
-/
import Derived.Test.YtdfhfaeeejijcaaDoorLp
import Derived.Test.YtdfhfaeeejijcaaDoorCdR
namespace Go.Proofs.YtdfhfaeeejijcaaDoor
open Go.RowKit

/-- The errors of reading identifiers lie somewhere. -/
structure E4 (w : World) : Prop where
  e0 : Er w 7
  e1 : Er w 8
  e2 : Er w 9
  e3 : Er w 13
theorem E4.old {w w' : World} (h : E4 w) (b : Below w.heap.size w w') : E4 w' := ⟨h.e0.old b, h.e1.old b, h.e2.old b, h.e3.old b⟩

theorem mhWr_len {c : CidL} (hc : c.tidy) (hd : c.digest.length ≤ 4096) : (mhWr c.code c.digest).length ≤ 1000000 ∧ mhRd (mhWr c.code c.digest) = some (c.code, c.digest, (mhWr c.code c.digest).length) := by
  have hcd : c.code < 9223372036854775808 := by rcases hc with ⟨_, _, h, _⟩ | ⟨_, _, h⟩ <;> omega
  constructor
  · have h1 := Lib.uvarint_length64 (x := c.code) (by omega)
    have h2 := Lib.uvarint_length64 (x := c.digest.length) (by omega)
    simp only [mhWr, List.length_append]; omega
  · have := mhRd_mhWr c.code c.digest [] hcd (by omega)
    rwa [List.append_nil] at this
theorem wr_len3 {c : CidL} (hc : c.tidy) (hd : c.digest.length ≤ 4096) : c.wr.length ≤ 5000 ∧ 0 < c.wr.length := by
  have h1 := Lib.uvarint_length64 (x := c.code) (by rcases hc with ⟨_, _, h, _⟩ | ⟨_, _, h⟩ <;> omega)
  have h2 := Lib.uvarint_length64 (x := c.digest.length) (by omega)
  have h3 := Lib.uvarint_length64 (x := c.codec) (by rcases hc with ⟨_, h, _⟩ | ⟨_, h, _⟩ <;> omega)
  have h4 := Lib.uvarint_length64 (x := 1) (by omega)
  have h5 := Lib.uvarint_pos c.code
  unfold CidL.wr
  split
  · simp only [mhWr, List.length_append]; omega
  · simp only [mhWr, List.length_append]; omega

/-- Bytes do not lie in a block that holds no byte. -/
theorem bs_ne {w : World} {g o b : Nat} {d : List UInt8} {t : TypeId} {cs : Array Value} (h : Bs w g o d) (hb : Blk w b t cs) (hc : ∀ (i : Nat) (v : Int), cs[i]? = some (.int .u8 v) → False) : d = [] ∨ g ≠ b := by
  cases d with
  | nil => exact .inl rfl
  | cons a t =>
    refine .inr fun e => ?_
    have h0 := h 0 (by simp)
    rw [Nat.add_zero, e, hb.cell] at h0
    exact hc _ _ h0
theorem no_byte3 (i : Nat) (v : Int) (h : (#[.slice none 0 0, .string ⟨#[]⟩, .int .u64 0] : Array Value)[i]? = some (.int .u8 v)) : False := by
  match i with
  | 0 => simp at h
  | 1 => simp at h
  | 2 => simp at h
  | n + 3 => simp at h

/-- What a record made of an identifier comes to. -/
def NrPost (c : CidL) (off : Nat) (w : World) (e : Ending) (w' : World) : Prop :=
  ∃ x : Rec, e = .returned x.agg ∧ x.d = c.digest ∧ x.off = off ∧ Bs w' x.g x.o x.d ∧ x.d.length ≤ x.c ∧ Below w.heap.size w w'

set_option maxRecDepth 100000 in
set_option maxHeartbeats 4000000 in
theorem newRecord_any (c : CidL) (off : Nat) (w : World) (hc : c.tidy) (hd : c.digest.length ≤ 4096) (E : E4 w) :
    Calls Tryd.prog 48 #[.agg #[.string ⟨c.wr.toArray⟩], .int .u64 off] w (NrPost c off w) := by
  have hw := wr_len3 hc hd
  have hm := mhWr_len hc hd
  obtain ⟨l, hl⟩ : ∃ l, c.wr = l := ⟨_, rfl⟩
  rw [hl] at hw
  rw [hl]
  obtain ⟨W, hW⟩ : ∃ W, (w.alloc (.cells #[.string ⟨l.toArray⟩] 58)).alloc (.cells #[.slice none 0 0, .string ⟨#[]⟩, .int .u64 0] 116) = W := ⟨_, rfl⟩
  have bW : Below w.heap.size w W := by rw [← hW]; exact Old.alloc (Old.alloc (Below.refl _ _) _) _
  have AW : Blk W w.heap.size 58 #[.string ⟨l.toArray⟩] := by rw [← hW]; exact (Blk.new _ _ _).alloc _
  have RW : Blk W (w.heap.size + 1) 116 #[.slice none 0 0, .string ⟨#[]⟩, .int .u64 0] := by
    rw [← hW]
    have := Blk.new (w.alloc (.cells #[.string ⟨l.toArray⟩] 58)) 116 #[.slice none 0 0, .string ⟨#[]⟩, .int .u64 0]
    simpa using this
  have a0 : W.cell? ⟨w.heap.size, 0, none⟩ = some (.string ⟨l.toArray⟩) := AW.cell 0
  have EW := E.old bW
  have HH := Lib.hid (cidHash_any c l W hl.symm hc hd (by omega) hw.2 EW.e0 EW.e1 EW.e2)
  have HM := Lib.hid (And.intro hm E)
  have HL := Lib.hid hl
  clear hc hd hw hm hl E EW
  go_enter Tryd.func48, Tryd.ntmps48
  go_wp2_with fail
  clear hW a0
  refine HH.out.mono ?_
  rintro e w1 ⟨g, o, n, cc, rfl, hn, hncc, hg, hbs, b1⟩
  have b01 := Old.trans bW b1
  have A1 := AW.old b1
  have R1 := RW.old b1
  have E1 := HM.out.2.old b01
  have hdc := mhDecode_any g o n cc (mhWr c.code c.digest) w1 hn (by have := HM.out.1.1; omega) (by omega) hbs hg E1.e0 E1.e1 E1.e2 E1.e3
  rw [HM.out.1.2] at hdc
  have HD := Lib.hid hdc
  clear hdc hbs b1 bW AW RW HH hn hncc E1
  go_wp2_with fail
  refine HD.out.mono ?_
  rintro e w2 ⟨b2, h2, _⟩
  obtain ⟨b, o2, c2, rfl, BD, hdl, hb2⟩ := h2 rfl
  clear h2 HD
  have b02 := Old.trans b01 b2
  have A2 := A1.old b2
  have R2 := R1.old b2
  have z2 := R2.lt
  unfold dmCells at BD
  have d3 : w2.cell? ⟨b, 3, none⟩ = some (.slice (some ⟨g, o2, none⟩) c.digest.length c2) := BD.cell 3
  have a0 : w2.cell? ⟨w.heap.size, 0, none⟩ = some (.string ⟨l.toArray⟩) := A2.cell 0
  have f0 := R2.frozen 0
  have f1 := R2.frozen 1
  have f2 := R2.frozen 2
  have r0 : w2.cell? ⟨w.heap.size + 1, 0, none⟩ = some (.slice none 0 0) := R2.cell 0
  have r1 : w2.cell? ⟨w.heap.size + 1, 1, none⟩ = some (.string ⟨#[]⟩) := R2.cell 1
  have r2 : w2.cell? ⟨w.heap.size + 1, 2, none⟩ = some (.int .u64 0) := R2.cell 2
  have H := Lib.hid (And.intro R2 (And.intro b02 (And.intro hb2 hdl)))
  clear R2 b02 hb2 hdl BD A2 b01 A1 R1 b2
  go_wp2_with fail
  go_region
  all_goals go_wp2_with fail
  all_goals refine bodyPost_ret (ret_cell rfl rfl ((H.out.1.row [.slice (some ⟨g, o2, none⟩) c.digest.length c2, .string ⟨l.toArray⟩, .int .u64 off] rfl).drew) Tryd.underlying116 (by kernel_rfl)) rfl ?_
  all_goals refine ⟨⟨g, o2, c2, c.digest, l, off⟩, rfl, rfl, rfl, ?_, H.out.2.2.2, RowKit.Below.drew (below_setCells (Nat.le_succ _) [.slice (some ⟨g, o2, none⟩) c.digest.length c2, .string ⟨l.toArray⟩, .int .u64 off] 0 _ H.out.2.1)⟩
  all_goals
    have hne := bs_ne H.out.2.2.1 H.out.1 no_byte3
    rcases hne with hne | hne
    · intro j hj
      simp only at hj
      rw [hne] at hj
      exact absurd hj (Nat.not_lt_zero _)
    · exact (H.out.2.2.1.kp (Kp.of_setCells (l := [w.heap.size + 1]) (.inl (by simp)) [.slice (some ⟨g, o2, none⟩) c.digest.length c2, .string ⟨l.toArray⟩, .int .u64 off] 0 _ (Kp.refl _ _)) (by simpa using hne)).drewN 1
end Go.Proofs.YtdfhfaeeejijcaaDoor
