/-
  The walks of package multihash: uvarint, readMultihashFromBuf, decode, Decode, MHFromBytes, Encode, and of errors.New. Conditions: as each contract says.
-/
import Derived.Test.YtdfhfaeeejijcaaDoorUvW
import Derived.Test.YtdfhfaeeejijcaaDoorMh
import Derived.Deep.RegionHeld3
namespace Go.Proofs.YtdfhfaeeejijcaaDoor
open Go.RowKit

set_option maxRecDepth 100000 in
theorem errorsNew_any (s : ByteArray) (w : World) :
    Calls Tryd.prog 46 #[.string s] w fun e w' => (∃ t p, e = .returned (.iface t p)) ∧ Below w.heap.size w w' := by
  go_enter Tryd.func46, Tryd.ntmps46
  go_wp2_with fail
  go_ret
  exact ⟨⟨_, _, rfl⟩, (Below.refl _ _).alloc (Nat.le_refl _) _⟩

/-- What multihash's uvarint comes to. -/
def MuPost (r : UvR) (l : List UInt8) (g : Nat) (w : World) (e : Ending) (w' : World) : Prop :=
  Below w.heap.size w w' ∧ match r with
    | .ok x s => ∃ z y, e = .returned (.tuple #[.int .u64 x, .slice (some ⟨g, z, none⟩) (l.length - s) y, .nilIface]) ∧ l.length - s ≤ y ∧ Bs w' g z (l.drop s)
    | _ => ∃ v t p, e = .returned (.tuple #[.int .u64 0, v, .iface t p])

set_option maxRecDepth 100000 in
theorem mhUvarint_any (g o n c : Nat) (l : List UInt8) (w : World) (hn : n = l.length) (hl : l.length ≤ 4611686018427387904) (hlc : l.length ≤ c) (hc : Bs w g o l) (e0 : Er w 7) (e1 : Er w 8) (e2 : Er w 9) :
    Calls Tryd.prog 81 #[.slice (some ⟨g, o, none⟩) n c] w (MuPost (uvRd l 0 0) l g w) := by
  subst hn
  generalize hr : uvRd l 0 0 = r
  have HR := Lib.hid hr
  clear hr
  go_enter Tryd.func81, Tryd.ntmps81
  go_wp2_with fail
  refine (fromUvarint_any g o c l w hl hc e0 e1 e2).mono ?_
  rw [HR.out]
  rintro e w1 ⟨⟨k, rfl⟩, h⟩
  cases r with
  | ok x s =>
    subst h
    obtain ⟨k1, k2, k3, _⟩ := uvRd_ok0 HR.out
    have h0 : ((s : Int) == 0) = false := by simp; omega
    have hcut' : c = s → Bs w g o (l.drop s) := fun h => by have := hc.cut (k := s) hlc; rwa [if_pos h] at this
    have hcut2 : ¬ c = s → Bs w g (o + s) (l.drop s) := fun h => by have := hc.cut (k := s) hlc; rwa [if_neg h] at this
    go_wp2_with fail
    go_quiet (fail)
    all_goals go_wp2_with fail
    all_goals go_ret3
    · exact ⟨below_drewN (Below.refl _ _) _, _, _, rfl, by omega, (hcut' (by assumption)).drewN _⟩
    · exact ⟨below_drewN (Below.refl _ _) _, _, _, rfl, by omega, (hcut2 (by assumption)).drewN _⟩
  | _ =>
    obtain ⟨t, p, rfl⟩ := h
    go_wp2_with fail
    go_ret3
    exact ⟨below_drewN (Below.refl _ _) _, _, _, _, rfl⟩

/-- What readMultihashFromBuf comes to. -/
def MrPost (r : Option (Nat × List UInt8 × Nat)) (g : Nat) (w : World) (e : Ending) (w' : World) : Prop :=
  Below w.heap.size w w' ∧ match r with
    | some (code, d, n) => ∃ o c, e = .returned (.tuple #[.int .i64 n, .int .u64 code, .slice (some ⟨g, o, none⟩) d.length c, .nilIface]) ∧ d.length ≤ c ∧ Bs w' g o d
    | none => ∃ t p, e = .returned (.tuple #[.int .i64 0, .int .u64 0, .slice none 0 0, .iface t p])

theorem mrPost_some {code n g o c dl : Nat} {nn : Int} {d : List UInt8} {w w' : World} (hb : Below w.heap.size w w') (hN : nn = (n : Int)) (hL : dl = d.length) (hc : dl ≤ c) (h : Bs w' g o d) :
    MrPost (some (code, d, n)) g w (.returned (.tuple #[.int .i64 nn, .int .u64 code, .slice (some ⟨g, o, none⟩) dl c, .nilIface])) w' := by
  subst hN hL
  exact ⟨hb, o, c, rfl, hc, h⟩

set_option maxRecDepth 100000 in
set_option maxHeartbeats 2000000 in
theorem readMh_any (g o n c : Nat) (l : List UInt8) (w : World) (hn : n = l.length) (hl : l.length ≤ 2147483647) (hlc : l.length ≤ c) (hc : Bs w g o l) (e0 : Er w 7) (e1 : Er w 8) (e2 : Er w 9) (e3 : Er w 13) :
    Calls Tryd.prog 75 #[.slice (some ⟨g, o, none⟩) n c] w (MrPost (mhRd l) g w) := by
  subst hn
  by_cases h2 : l.length < 2
  · rw [mhRd_len h2]
    obtain ⟨t3, p3, e3⟩ := e3
    have hd : decide ((l.length : Int) < 2) = true := by simp; omega
    go_enter Tryd.func75, Tryd.ntmps75
    go_wp2_with fail
    go_quiet (fail)
    go_wp2_with fail
    refine bodyPost_ret (results_tmp4 rfl _ _ _) rfl ?_
    exact ⟨below_drewN (Below.refl _ _) _, _, _, rfl⟩
  · have hd : decide ((l.length : Int) < 2) = false := by simp; omega
    go_enter Tryd.func75, Tryd.ntmps75
    go_wp2_with fail
    refine (mhUvarint_any g o _ c l w rfl (by omega) hlc hc e0 e1 e2).mono ?_
    cases hr1 : uvRd l 0 0 with
    | ok x s =>
      have HR1 := Lib.hid hr1
      clear hr1
      rintro e w1 ⟨b1, z, y, rfl, hzy, hbz⟩
      obtain ⟨k1, k2, k3, _⟩ := uvRd_ok0 HR1.out
      go_wp2_with fail
      refine (mhUvarint_any g z _ y (l.drop s) w1 (by rw [List.length_drop]) (by rw [List.length_drop]; omega) (by rw [List.length_drop]; omega) hbz (e0.old b1) (e1.old b1) (e2.old b1)).mono ?_
      cases hr2 : uvRd (l.drop s) 0 0 with
      | ok x2 s2 =>
        have HR2 := Lib.hid hr2
        clear hr2
        rintro e w2 ⟨b2, z2, y2, rfl, hzy2, hbz2⟩
        obtain ⟨m1, m2, m3, m4⟩ := uvRd_ok0 HR2.out
        rw [List.length_drop] at m2
        have b12 := Old.trans b1 b2
        rw [List.drop_drop] at hbz2
        by_cases h3 : l.length - s - s2 < x2
        · have hn : mhRd l = none := by unfold mhRd; rw [HR1.out]; simp only; rw [HR2.out]; simp only; rw [if_pos h3]
          have HN := Lib.hid hn
          clear hn
          go_wp2_with fail
          all_goals refine (errorsNew_any _ _).mono ?_
          all_goals rintro e w3 ⟨⟨t, p, rfl⟩, b3⟩
          all_goals go_wp2_with fail
          all_goals refine bodyPost_ret (results_tmp4 rfl _ _ _) rfl ?_
          all_goals rw [HN.out]
          all_goals exact ⟨Old.trans b12 b3, _, _, rfl⟩
        · have hn : mhRd l = some (x, (l.drop (s + s2)).take x2, s + s2 + x2) := by unfold mhRd; rw [HR1.out]; simp only; rw [HR2.out]; simp only; rw [if_neg h3]
          have HN := Lib.hid hn
          clear hn
          have b2' : Below w2.heap.size w2 w2 := Below.refl _ _
          have hx2 : x2 ≤ y2 := by rw [List.length_drop] at hzy2; omega
          have hd2 : ((l.drop (s + s2)).take x2).length = x2 := by rw [List.length_take, List.length_drop]; omega
          go_wp2_with fail
          go_quiet (fail)
          go_wp2_with fail
          refine bodyPost_ret (results_tmp4 rfl _ _ _) rfl ?_
          rw [HN.out]
          exact mrPost_some (below_drewN b12 _) (by omega) hd2.symm hx2 ((hbz2.take x2).old b2' |>.drewN _)
      | _ =>
        have HR2 := Lib.hid hr2
        clear hr2
        rintro e w2 ⟨b2, v, t, p, rfl⟩
        go_wp2_with fail
        refine bodyPost_ret (results_tmp4 rfl _ _ _) rfl ?_
        have hn : mhRd l = none := by unfold mhRd; rw [HR1.out]; simp only; rw [HR2.out]
        rw [hn]
        exact ⟨Old.trans b1 b2, _, _, rfl⟩
    | _ =>
      have HR1 := Lib.hid hr1
      clear hr1
      rintro e w1 ⟨b1, v, t, p, rfl⟩
      go_wp2_with fail
      refine bodyPost_ret (results_tmp4 rfl _ _ _) rfl ?_
      have hn : mhRd l = none := by unfold mhRd; rw [HR1.out]
      rw [hn]
      exact ⟨b1, _, _, rfl⟩

/-- A DecodedMultihash's cells. -/
def dmCells (code : Nat) (n g o c : Nat) : Array Value := #[.int .u64 code, .string ⟨#[]⟩, .int .i64 n, .slice (some ⟨g, o, none⟩) n c]
def dmNone : Array Value := #[.int .u64 0, .string ⟨#[]⟩, .int .i64 0, .slice none 0 0]

/-- What decode comes to, of n0 bytes in block g. -/
def DcPost (r : Option (Nat × List UInt8 × Nat)) (n0 g : Nat) (w : World) (e : Ending) (w' : World) : Prop :=
  Below w.heap.size w w' ∧ match r with
    | some (code, d, n) => ∃ o c, d.length ≤ c ∧ Bs w' g o d ∧ (n = n0 → e = .returned (.tuple #[.agg (dmCells code d.length g o c), .nilIface])) ∧ (n ≠ n0 → ∃ t p, e = .returned (.tuple #[.agg (dmCells code d.length g o c), .iface t p]))
    | none => ∃ t p, e = .returned (.tuple #[.agg dmNone, .iface t p])

set_option maxRecDepth 100000 in
set_option maxHeartbeats 2000000 in
theorem mhdecode_any (g o n c : Nat) (l : List UInt8) (w : World) (hn : n = l.length) (hl : l.length ≤ 2147483647) (hlc : l.length ≤ c) (hc : Bs w g o l) (hg : g < w.heap.size) (e0 : Er w 7) (e1 : Er w 8) (e2 : Er w 9) (e3 : Er w 13) :
    Calls Tryd.prog 65 #[.slice (some ⟨g, o, none⟩) n c] w (DcPost (mhRd l) l.length g w) := by
  have HN := Lib.hid hn
  clear hn
  go_enter Tryd.func65, Tryd.ntmps65
  go_wp2_with fail
  have b0 : Below w.heap.size w (w.alloc (.cells #[.int .u64 0, .string ⟨#[]⟩, .int .i64 0, .slice none 0 0] 134)) := (Below.refl _ _).alloc (Nat.le_refl _) _
  have B0 := Blk.new w 134 #[.int .u64 0, .string ⟨#[]⟩, .int .i64 0, .slice none 0 0]
  refine (readMh_any g o n c l _ HN.out hl hlc (hc.old b0) (e0.old b0) (e1.old b0) (e2.old b0) (e3.old b0)).mono ?_
  cases hr : mhRd l with
  | none =>
    rintro e w1 ⟨b1, t, p, rfl⟩
    have b01 := Old.trans b0 b1
    have B1 := B0.old b1
    obtain ⟨c1, f1⟩ := bcell b1
    have z1 := b1.size
    simp at c1 f1 z1
    have z2 : w.heap.size < w1.heap.size := by omega
    go_wp2_with fail
    refine bodyPost_ret (ret_cell_tmp rfl rfl (B1.row [.int .u64 0, .string ⟨#[]⟩, .int .i64 0, .slice none 0 0] rfl) Tryd.underlying134 (by kernel_rfl)) rfl ?_
    rw [hr]
    refine ⟨?_, _, _, rfl⟩
    repeat (refine RowKit.Below.setCell ?_ (by simp) _)
    exact b01
  | some x =>
    obtain ⟨code, d, m⟩ := x
    rintro e w1 ⟨b1, o2, cc, rfl, hdc, hbs⟩
    have b01 := Old.trans b0 b1
    have B1 := B0.old b1
    obtain ⟨c1, f1⟩ := bcell b1
    have z1 := b1.size
    simp at c1 f1 z1
    have z2 : w.heap.size < w1.heap.size := by omega
    have hgne : g ≠ w.heap.size := by omega
    by_cases hm : m = l.length
    · have hne : (((n : Int)) != (m : Int)) = false := by rw [HN.out]; simp [hm]
      have HM := Lib.hid hm
      clear hm
      go_wp2_with fail
      refine bodyPost_ret (ret_cell_tmp rfl rfl ((B1.row [.int .u64 code, .string ⟨#[]⟩, .int .i64 d.length, .slice (some ⟨g, o2, none⟩) d.length cc] rfl).row [.int .u64 code, .string ⟨#[]⟩, .int .i64 d.length, .slice (some ⟨g, o2, none⟩) d.length cc] rfl) Tryd.underlying134 (by kernel_rfl)) rfl ?_
      rw [hr]
      refine ⟨?_, o2, cc, hdc, ?_, fun _ => rfl, fun h => absurd HM.out h⟩
      · repeat (refine RowKit.Below.setCell ?_ (by simp) _)
        exact b01
      · repeat (refine Bs.far ?_ hgne _)
        exact hbs
    · have hne : (((n : Int)) != (m : Int)) = true := by rw [HN.out]; simp; omega
      have HM := Lib.hid hm
      clear hm
      go_wp2_with fail
      refine bodyPost_ret (ret_cell_tmp rfl rfl ((B1.row [.int .u64 code, .string ⟨#[]⟩, .int .i64 d.length, .slice (some ⟨g, o2, none⟩) d.length cc] rfl).row [.int .u64 code, .string ⟨#[]⟩, .int .i64 d.length, .slice (some ⟨g, o2, none⟩) d.length cc] rfl) Tryd.underlying134 (by kernel_rfl)) rfl ?_
      rw [hr]
      refine ⟨?_, o2, cc, hdc, ?_, fun h => absurd h HM.out, fun _ => ⟨_, _, rfl⟩⟩
      · repeat (refine RowKit.Below.setCell ?_ (by simp) _)
        exact b01
      · repeat (refine Bs.far ?_ hgne _)
        exact hbs
end Go.Proofs.YtdfhfaeeejijcaaDoor
