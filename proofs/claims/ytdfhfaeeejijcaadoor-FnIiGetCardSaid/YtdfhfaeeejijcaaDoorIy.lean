/-
  index.NewInsertionIndex, (*InsertionIndex).InsertNoReplace, getRecord, Get; impl.found: their walks. Conditions: as each contract says.
-/
import Derived.Test.YtdfhfaeeejijcaaDoorIx
namespace Go.Proofs.YtdfhfaeeejijcaaDoor
open Go.RowKit

set_option maxRecDepth 100000 in
theorem newIndex_any (w : World) : Calls Tryd.prog 34 #[] w fun e w' => e = .returned (.pointer (some ⟨w.heap.size, 0, none⟩)) ∧ Blk w' w.heap.size 113 #[.int .i64 0, .pointer none] ∧ Below w.heap.size w w' := by
  go_enter Tryd.func34, Tryd.ntmps34
  go_wp2_with fail
  go_ret
  exact ⟨rfl, Blk.new _ _ _, Old.alloc (Below.refl _ _) _⟩

/-- What an insertion into the index comes to. -/
def IiPost (ib : Nat) (n : Int) (s : Tre) (c : CidL) (off : Nat) (w : World) (e : Ending) (w' : World) : Prop :=
  e = .returned (.tuple #[]) ∧ ∃ (x : Rec) (s' : Tre), x.d = c.digest ∧ x.off = off ∧ Blk w' ib 113 #[.int .i64 (n + 1), .pointer s'.adr] ∧ Tr w' s' ∧ s'.ino.Perm (x :: s.ino) ∧ (Ord s.ino → Ord s'.ino) ∧ s'.bs.Nodup ∧ ib ∉ s'.bs ∧ (∀ i ∈ s'.bs, i ∈ s.bs ∨ w.heap.size ≤ i) ∧ Kp (ib :: s.bs) w w'

set_option maxRecDepth 100000 in
set_option maxHeartbeats 4000000 in
theorem iiInsert_any (ib : Nat) (n : Int) (s : Tre) (c : CidL) (off : Nat) (w : World) (hb : Blk w ib 113 #[.int .i64 n, .pointer s.adr]) (hn0 : 0 ≤ n) (hn : n ≤ 1000000) (h : Tr w s) (nd : s.bs.Nodup) (hi : ib ∉ s.bs) (hc : c.tidy) (hd : c.digest.length ≤ 200) (hd0 : c.digest ≠ []) (E : E4 w) :
    Calls Tryd.prog 35 #[.pointer (some ⟨ib, 0, none⟩), .agg #[.string ⟨c.wr.toArray⟩], .int .u64 off] w (IiPost ib n s c off w) := by
  obtain ⟨l, hl⟩ : ∃ l, c.wr = l := ⟨_, rfl⟩
  have hnr := fun W (hW : Below w.heap.size w W) => newRecord_any c off W hc (by omega) (E.old hW)
  rw [hl] at hnr
  rw [hl]
  obtain ⟨W, hW⟩ : ∃ W, w.alloc (.cells #[.string ⟨l.toArray⟩] 58) = W := ⟨_, rfl⟩
  have bW : Below w.heap.size w W := by rw [← hW]; exact Old.alloc (Below.refl _ _) _
  have AW : Blk W w.heap.size 58 #[.string ⟨l.toArray⟩] := by rw [← hW]; exact Blk.new _ _ _
  have a0 : W.cell? ⟨w.heap.size, 0, none⟩ = some (.string ⟨l.toArray⟩) := AW.cell 0
  have HN := Lib.hid (hnr W.drew (RowKit.Below.drew bW))
  have H := Lib.hid (And.intro hb (And.intro hn0 (And.intro hn (And.intro h (And.intro nd (And.intro hi (And.intro hd (And.intro hd0 bW))))))))
  clear hnr hb hn0 hn h nd hi hc hd hd0 E hl bW AW
  go_enter Tryd.func35, Tryd.ntmps35
  go_wp2_with fail
  go_region_with (first | (go_at_call 48; refine HN.out.mono ?_; rintro _ w1 ⟨x, rfl, hxd, hxo, hxb, hxc, b1⟩; have HX := Lib.hid (And.intro hxd (And.intro hxo (And.intro hxb (And.intro hxc b1)))); clear hxd hxo hxb hxc b1) | (go_at_call 47; have b01 := Old.trans (RowKit.Below.drew H.out.2.2.2.2.2.2.2.2) HX.out.2.2.2.2; refine (insertTop_any ib n s x w1 (H.out.1.old b01) H.out.2.1 H.out.2.2.1 (Tr.old b01 H.out.2.2.2.1) H.out.2.2.2.2.1 H.out.2.2.2.2.2.1 ⟨HX.out.2.2.1, by rw [HX.out.1]; exact H.out.2.2.2.2.2.2.2.1, HX.out.2.2.2.1, by rw [HX.out.1]; have := H.out.2.2.2.2.2.2.1; omega⟩).mono ?_; rintro _ w2 ⟨rfl, s', hB, hT, hp, ho, hnd, hib, hbs, hk⟩; have HF := Lib.hid (And.intro hB (And.intro hT (And.intro hp (And.intro ho (And.intro hnd (And.intro hib (And.intro hbs (And.intro hk b01)))))))); clear hB hT hp ho hnd hib hbs hk b01))
  all_goals go_wp2_with fail
  all_goals go_end0
  all_goals
    obtain ⟨hB, hT, hp, ho, hnd, hib, hbs, hk, b01⟩ := HF.out
    exact ⟨rfl, x, s', HX.out.1, HX.out.2.1, hB, hT, hp, ho, hnd, hib, fun i hi => (hbs i hi).imp id (fun h => Nat.le_trans b01.size h), (Kp.of_below b01 _).trans hk⟩

theorem GetPost.val {s : Tre} {x : Rec} {w : World} {e : Ending} {w' : World} (h : GetPost s x w e w') : ∃ v, e = .returned v ∧ Below w.heap.size w w' ∧ ((∃ y ∈ s.ino, y.d = x.d ∧ v = y.val) ∨ ((∀ y ∈ s.ino, y.d ≠ x.d) ∧ v = .nilIface)) := by
  obtain ⟨hb, ⟨y, hy, hd, rfl⟩ | ⟨hn, rfl⟩⟩ := h
  · exact ⟨_, rfl, hb, .inl ⟨y, hy, hd, rfl⟩⟩
  · exact ⟨_, rfl, hb, .inr ⟨hn, rfl⟩⟩

/-- What looking up a record comes to. -/
def GrPost (s : Tre) (d : List UInt8) (aN : Addr) (w : World) (e : Ending) (w' : World) : Prop :=
  Below w.heap.size w w' ∧ ((∃ y ∈ s.ino, y.d = d ∧ e = .returned (.tuple #[.agg #[.string ⟨y.id.toArray⟩, .int .u64 (y.off : Nat)], .nilIface])) ∨
    ((∀ y ∈ s.ino, y.d ≠ d) ∧ e = .returned (.tuple #[.agg #[.string ⟨#[]⟩, .int .u64 0], .iface 142 (.pointer (some aN))])))

set_option maxRecDepth 100000 in
set_option maxHeartbeats 4000000 in
theorem getRecord_any (ib : Nat) (n : Int) (s : Tre) (c : CidL) (aN : Addr) (w : World) (hb : Blk w ib 113 #[.int .i64 n, .pointer s.adr]) (h : Tr w s) (hO : Ord s.ino) (hc : c.tidy) (hd : c.digest.length ≤ 200) (hd0 : c.digest ≠ []) (E : E4 w) (eN : Ee w 0 aN) :
    Calls Tryd.prog 40 #[.pointer (some ⟨ib, 0, none⟩), .agg #[.string ⟨c.wr.toArray⟩]] w (GrPost s c.digest aN w) := by
  have hw := wr_len3 hc (by omega)
  have hm := mhWr_len hc (by omega)
  obtain ⟨l, hl⟩ : ∃ l, c.wr = l := ⟨_, rfl⟩
  rw [hl] at hw
  rw [hl]
  obtain ⟨W, hW⟩ : ∃ W, (w.alloc (.cells #[.string ⟨l.toArray⟩] 58)).alloc (.cells #[.string ⟨#[]⟩, .int .u64 0] 91) = W := ⟨_, rfl⟩
  have bW : Below w.heap.size w W := by rw [← hW]; exact Old.alloc (Old.alloc (Below.refl _ _) _) _
  have AW : Blk W w.heap.size 58 #[.string ⟨l.toArray⟩] := by rw [← hW]; exact (Blk.new _ _ _).alloc _
  have RW : Blk W (w.heap.size + 1) 91 #[.string ⟨#[]⟩, .int .u64 0] := by
    rw [← hW]
    have := Blk.new (w.alloc (.cells #[.string ⟨l.toArray⟩] 58)) 91 #[.string ⟨#[]⟩, .int .u64 0]
    simpa using this
  have a0 : W.cell? ⟨w.heap.size, 0, none⟩ = some (.string ⟨l.toArray⟩) := AW.cell 0
  have EW := E.old bW
  have HH := Lib.hid (cidHash_any c l W hl.symm hc (by omega) (by omega) hw.2 EW.e0 EW.e1 EW.e2)
  have HM := Lib.hid (And.intro hm (And.intro E (And.intro hd hd0)))
  have HT := Lib.hid (And.intro hb (And.intro h (And.intro hO eN)))
  clear hc hd hw hm hl E EW hb h hO eN hd0
  go_enter Tryd.func40, Tryd.ntmps40
  go_wp2_with fail
  clear hW a0
  refine HH.out.mono ?_
  rintro e w1 ⟨g, o, nn, cc, rfl, hn, hncc, hg, hbs, b1⟩
  have b01 := Old.trans bW b1
  have R1 := RW.old b1
  have E1 := HM.out.2.1.old b01
  have hdc := mhDecode_any g o nn cc (mhWr c.code c.digest) w1 hn (by have := HM.out.1.1; omega) (by omega) hbs hg E1.e0 E1.e1 E1.e2 E1.e3
  rw [HM.out.1.2] at hdc
  have HD := Lib.hid hdc
  clear hdc hbs b1 bW AW RW HH hn hncc E1
  go_wp2_with fail
  refine HD.out.mono ?_
  rintro e w2 ⟨b2, h2, _⟩
  obtain ⟨b, o2, c2, rfl, BD, hdl, hb2⟩ := h2 rfl
  clear h2 HD
  have b02 := Old.trans b01 b2
  have R2 := R1.old b2
  unfold dmCells at BD
  have d3 : w2.cell? ⟨b, 3, none⟩ = some (.slice (some ⟨g, o2, none⟩) c.digest.length c2) := BD.cell 3
  have R3 := R2.alloc (.cells #[.slice (some ⟨g, o2, none⟩) c.digest.length c2, .string ⟨#[]⟩, .int .u64 0] 116)
  have b03 := Old.alloc b02 (.cells #[.slice (some ⟨g, o2, none⟩) c.digest.length c2, .string ⟨#[]⟩, .int .u64 0] 116)
  have K3 := Blk.new w2 116 #[.slice (some ⟨g, o2, none⟩) c.digest.length c2, .string ⟨#[]⟩, .int .u64 0]
  have hb3 := hb2.alloc (.cells #[.slice (some ⟨g, o2, none⟩) c.digest.length c2, .string ⟨#[]⟩, .int .u64 0] 116)
  clear R2 b02 BD b2 b01 R1
  go_wp2_with fail
  clear d3
  generalize w2.alloc (.cells #[.slice (some ⟨g, o2, none⟩) c.digest.length c2, .string ⟨#[]⟩, .int .u64 0] 116) = W3 at *
  have k0 : W3.cell? ⟨w2.heap.size, 0, none⟩ = some (.slice (some ⟨g, o2, none⟩) c.digest.length c2) := K3.cell 0
  have k1 : W3.cell? ⟨w2.heap.size, 1, none⟩ = some (.string ⟨#[]⟩) := K3.cell 1
  have k2 : W3.cell? ⟨w2.heap.size, 2, none⟩ = some (.int .u64 0) := K3.cell 2
  have hx : It W3.drew ⟨g, o2, c2, c.digest, [], 0⟩ := ⟨hb3.drewN 1, HM.out.2.2.2, hdl, by have := HM.out.2.2.1; simp only; omega⟩
  have HG := Lib.hid (llrbGet_any ib n s ⟨g, o2, c2, c.digest, [], 0⟩ W3.drew (HT.out.1.old (RowKit.Below.drew b03)) (Tr.old (RowKit.Below.drew b03) HT.out.2.1) HT.out.2.2.1 hx)
  have H := Lib.hid (And.intro R3 b03)
  clear R3 b03 K3 hb3 hx hdl hb2
  go_region_with (go_at_call 58; refine HG.out.mono ?_; rintro _ w4 hp; obtain ⟨v, rfl, b4, hres⟩ := hp.val; have HRes := Lib.hid (And.intro b4 hres); clear b4 hres hp)
  have b4 := Old.trans (RowKit.Below.drew H.out.2) HRes.out.1
  have R4 := (H.out.1.drew).old HRes.out.1
  have N4 : Ee w4 0 aN := HT.out.2.2.2.old b4
  clear k0 k1 k2
  rcases HRes.out.2 with ⟨y, hy, hyd, rfl⟩ | ⟨hno, rfl⟩
  · have HY := Lib.hid (And.intro hy hyd)
    clear hy hyd
    unfold Rec.val Rec.agg
    have hta := fun v W => run_typeAssert_struct (P := Tryd.prog) (t := 116) (xT := 136) v W Tryd.underlying116
    have b5 := Old.alloc b4 (.cells #[.slice (some ⟨y.g, y.o, none⟩) y.d.length y.c, .string ⟨y.id.toArray⟩, .int .u64 (y.off : Nat)] 116)
    have R5 := R4.alloc (.cells #[.slice (some ⟨y.g, y.o, none⟩) y.d.length y.c, .string ⟨y.id.toArray⟩, .int .u64 (y.off : Nat)] 116)
    have K5 := Blk.new w4 116 #[.slice (some ⟨y.g, y.o, none⟩) y.d.length y.c, .string ⟨y.id.toArray⟩, .int .u64 (y.off : Nat)]
    have f0 := R5.frozen 0
    have f1 := R5.frozen 1
    have r0 : (w4.alloc (.cells #[.slice (some ⟨y.g, y.o, none⟩) y.d.length y.c, .string ⟨y.id.toArray⟩, .int .u64 (y.off : Nat)] 116)).cell? ⟨w.heap.size + 1, 0, none⟩ = some (.string ⟨#[]⟩) := R5.cell 0
    have r1 : (w4.alloc (.cells #[.slice (some ⟨y.g, y.o, none⟩) y.d.length y.c, .string ⟨y.id.toArray⟩, .int .u64 (y.off : Nat)] 116)).cell? ⟨w.heap.size + 1, 1, none⟩ = some (.int .u64 0) := R5.cell 1
    have H5 := Lib.hid (And.intro b5 R5)
    clear N4 b4 R4 K5 b5 R5
    go_wp2_with fail
    refine bodyPost_ret (ret_cell_tmp rfl rfl (H5.out.2.row [.string ⟨y.id.toArray⟩, .int .u64 (y.off : Nat)] rfl) Tryd.underlying91 (by kernel_rfl)) rfl ?_
    exact ⟨below_setCells (Nat.le_succ _) [.string ⟨y.id.toArray⟩, .int .u64 (y.off : Nat)] 0 _ H5.out.1, .inl ⟨y, HY.out.1, HY.out.2, rfl⟩⟩
  · have HY := Lib.hid hno
    have f0 := R4.frozen 0
    have f1 := R4.frozen 1
    have r0 : w4.cell? ⟨w.heap.size + 1, 0, none⟩ = some (.string ⟨#[]⟩) := R4.cell 0
    have r1 : w4.cell? ⟨w.heap.size + 1, 1, none⟩ = some (.int .u64 0) := R4.cell 1
    have H5 := Lib.hid (And.intro b4 R4)
    unfold Ee at N4
    clear hno b4 R4
    go_wp2_with fail
    go_region
    all_goals go_wp2_with fail
    all_goals refine bodyPost_ret (ret_cell_tmp rfl rfl ((H5.out.2.row [.string ⟨#[]⟩, .int .u64 0] rfl).drew) Tryd.underlying91 (by kernel_rfl)) rfl ?_
    all_goals exact ⟨RowKit.Below.drew (below_setCells (Nat.le_succ _) [.string ⟨#[]⟩, .int .u64 0] 0 _ H5.out.1), .inr ⟨HY.out, rfl⟩⟩
end Go.Proofs.YtdfhfaeeejijcaaDoor
