/-
  The walk of cid.CidFromReader over a bytes.Reader of bytes that begin with an identifier. Conditions: as each contract says.
  Prefixes: their bytes and the reading of them; the walks of Prefix.Bytes, PrefixFromBytes, impl.CdPrefix, CdPrefixRead, laws.FnCdPrefixCut. Conditions: as each contract says.
  The walks of impl.CdPrefix, CdPrefixRead, laws.FnCdPrefixCut. Conditions: as each contract says.
  The walks of impl.CdReader, cid.Cast, impl.CdCast (of bytes that begin with an identifier) and laws.FnCdBack. Conditions: as each contract says.
-/
import Derived.Test.YtlafdmmjbkdkaaaGreatDoorJRd
import Derived.Test.YtlafdmmjbkdkaaaGreatDoorJSp
import Derived.Lib.AppendZerosOnto
import Derived.Deep.RegionLaw
namespace Go.Proofs.YtlafdmmjbkdkaaaGreatDoor
open Go.RowKit

/-- An append whose run is known, as a step of a region that draws its order. -/
theorem step_append_run {P : Program} {ops : Array Oper} {o : Oper} {a : Act} {w : World} {K : Act → World → Prop} {Q : Exit → Act → World → Prop} {E : Prop} (hgd : o.guard = none) (s x : Operand) (t tn : TypeId)
    (ho : o.op = .call { callee := .builtin .append, args := #[s, x], argTypes := #[t, tn] }) (vs vx : Value) (hs : a.eval s = vs) (hx : a.eval x = vx) (v' : Value) (w' : World) (hr : (Builtin.append_ #[t, tn] o.type #[vs, vx]).run P w = .ok v' w') (hK : K (a.put o.dst v') w') :
    if Region.wanted o (yielded ops a.tmps) = true then Oper.wp P o a w K Q else E := by
  have hw : Region.wanted o (yielded ops a.tmps) = true := by simp [Region.wanted, hgd]
  rw [if_pos hw]
  exact Go.Lib.wp_append_run w s x t tn ho vs vx hs hx v' w' hr hK

end Go.Proofs.YtlafdmmjbkdkaaaGreatDoor

namespace Go.Proofs.YtlafdmmjbkdkaaaGreatDoor
open Go.RowKit

/-- A prefix's bytes. -/
def pfWr (x0 x1 x2 x3 : Nat) : List UInt8 := Lib.uvarint x0 ++ Lib.uvarint x1 ++ Lib.uvarint x2 ++ Lib.uvarint x3

def okOf : UvR → Option (Nat × Nat)
  | .ok x n => some (x, n)
  | _ => none
theorem okOf_some {r : UvR} {x n : Nat} (h : okOf r = some (x, n)) : r = .ok x n := by
  cases r with
  | ok a b => simp [okOf] at h; rw [h.1, h.2]
  | _ => simp [okOf] at h

/-- The reading of four numbers, one behind the other. -/
def pfRd (l : List UInt8) : Option (Nat × Nat × Nat × Nat) :=
  match okOf (uvRd l 0 0) with
  | none => none
  | some (x0, n0) => match okOf (uvRd (l.drop n0) 0 0) with
    | none => none
    | some (x1, n1) => match okOf (uvRd (l.drop (n0 + n1)) 0 0) with
      | none => none
      | some (x2, n2) => match okOf (uvRd (l.drop (n0 + n1 + n2)) 0 0) with
        | none => none
        | some (x3, _) => some (x0, x1, x2, x3)

theorem uvRd_ok_len {l : List UInt8} {x n : Nat} (h : uvRd l 0 0 = .ok x n) : n = (Lib.uvarint x).length ∧ l = Lib.uvarint x ++ l.drop n := by
  obtain ⟨h1, h2⟩ := uvRd_canon0 h
  exact ⟨h2, by rw [← h1, List.take_append_drop]⟩

theorem pfRd_some {l : List UInt8} {x0 x1 x2 x3 : Nat} (h : pfRd l = some (x0, x1, x2, x3)) : ∃ r, l = pfWr x0 x1 x2 x3 ++ r ∧ x0 < 9223372036854775808 ∧ x1 < 9223372036854775808 ∧ x2 < 9223372036854775808 ∧ x3 < 9223372036854775808 := by
  unfold pfRd at h
  split at h
  · cases h
  · rename_i y0 n0 h0
    split at h
    · cases h
    · rename_i y1 n1 h1
      split at h
      · cases h
      · rename_i y2 n2 h2
        split at h
        · cases h
        · rename_i y3 n3 h3
          injection h with h
          injection h with e0 h
          injection h with e1 h
          injection h with e2 e3
          subst e0 e1 e2 e3
          replace h0 := okOf_some h0
          replace h1 := okOf_some h1
          replace h2 := okOf_some h2
          replace h3 := okOf_some h3
          obtain ⟨a0, b0⟩ := uvRd_ok_len h0
          obtain ⟨a1, b1⟩ := uvRd_ok_len h1
          obtain ⟨a2, b2⟩ := uvRd_ok_len h2
          obtain ⟨a3, b3⟩ := uvRd_ok_len h3
          rw [List.drop_drop] at b1 b2 b3
          refine ⟨l.drop (n0 + n1 + n2 + n3), ?_, (uvRd_ok0 h0).2.2.2, (uvRd_ok0 h1).2.2.2, (uvRd_ok0 h2).2.2.2, (uvRd_ok0 h3).2.2.2⟩
          rw [pfWr, List.append_assoc, List.append_assoc, List.append_assoc, ← b3, ← b2, ← b1, ← b0]

theorem pfRd_wr (x0 x1 x2 x3 : Nat) (r : List UInt8) (h0 : x0 < 9223372036854775808) (h1 : x1 < 9223372036854775808) (h2 : x2 < 9223372036854775808) (h3 : x3 < 9223372036854775808) : pfRd (pfWr x0 x1 x2 x3 ++ r) = some (x0, x1, x2, x3) := by
  have e : pfWr x0 x1 x2 x3 ++ r = Lib.uvarint x0 ++ (Lib.uvarint x1 ++ (Lib.uvarint x2 ++ (Lib.uvarint x3 ++ r))) := by simp [pfWr]
  have d1 : (pfWr x0 x1 x2 x3 ++ r).drop (Lib.uvarint x0).length = Lib.uvarint x1 ++ (Lib.uvarint x2 ++ (Lib.uvarint x3 ++ r)) := by rw [e, List.drop_left]
  have d2 : (pfWr x0 x1 x2 x3 ++ r).drop ((Lib.uvarint x0).length + (Lib.uvarint x1).length) = Lib.uvarint x2 ++ (Lib.uvarint x3 ++ r) := by rw [← List.drop_drop, d1, List.drop_left]
  have d3 : (pfWr x0 x1 x2 x3 ++ r).drop ((Lib.uvarint x0).length + (Lib.uvarint x1).length + (Lib.uvarint x2).length) = Lib.uvarint x3 ++ r := by rw [← List.drop_drop, d2, List.drop_left]
  unfold pfRd
  rw [show uvRd (pfWr x0 x1 x2 x3 ++ r) 0 0 = .ok x0 (Lib.uvarint x0).length by rw [e]; exact uvRd_uvarint _ _ h0]
  simp only [okOf, d1, uvRd_uvarint x1 _ h1, d2, uvRd_uvarint x2 _ h2, d3, uvRd_uvarint x3 _ h3]

/-- Cut off ahead of their end they are no prefix. -/
theorem pfRd_cut (x0 x1 x2 x3 j : Nat) (h0 : x0 < 9223372036854775808) (h1 : x1 < 9223372036854775808) (h2 : x2 < 9223372036854775808) (h3 : x3 < 9223372036854775808) (hj : j < (pfWr x0 x1 x2 x3).length) : pfRd ((pfWr x0 x1 x2 x3).take j) = none := by
  cases h : pfRd ((pfWr x0 x1 x2 x3).take j) with
  | none => rfl
  | some y =>
    obtain ⟨y0, y1, y2, y3⟩ := y
    exfalso
    obtain ⟨r, hr, k0, k1, k2, k3⟩ := pfRd_some h
    have hw : pfWr x0 x1 x2 x3 = pfWr y0 y1 y2 y3 ++ (r ++ (pfWr x0 x1 x2 x3).drop j) := by
      rw [← List.append_assoc, ← hr, List.take_append_drop]
    have a := pfRd_wr x0 x1 x2 x3 [] h0 h1 h2 h3
    have b := pfRd_wr y0 y1 y2 y3 (r ++ (pfWr x0 x1 x2 x3).drop j) k0 k1 k2 k3
    rw [List.append_nil] at a
    rw [← hw, a] at b
    injection b with b
    injection b with e0 b
    injection b with e1 b
    injection b with e2 e3
    subst e0 e1 e2 e3
    have hl := congrArg List.length hw
    rw [List.length_append, List.length_append, List.length_drop] at hl
    omega

/-- What one reading comes to. -/
def RsPost (res : Option (Nat × Nat)) (r g o n c i : Nat) (w W : World) (e : Ending) (w' : World) : Prop :=
  Below w.heap.size w w' ∧ Kp [r] W w' ∧ match res with
    | some (x, s) => Rdr w' r g o n c (i + s) ∧ e = .returned (.tuple #[.int .u64 x, .nilIface])
    | none => ∃ t p, e = .returned (.tuple #[.int .u64 0, .iface t p])

theorem readStep (r g o n c i : Nat) (l : List UInt8) (aE aU aO aM : Addr) (w W : World) (b : Below w.heap.size w W) (h : Rdr W r g o n c i) (hc : Bs W g o l) (hn : n = l.length) (hi : i ≤ n) (hl : l.length ≤ 4611686018427387904) (hgr : g ≠ r) (hr : w.heap.size ≤ r)
    (eE : Ee w 2 aE) (eU : Ee w 7 aU) (eO : Ee w 10 aO) (eM : Ee w 11 aM) :
    Calls Tryz.prog 92 #[.iface 51 (.pointer (some ⟨r, 0, none⟩))] W (RsPost (okOf (uvRd (l.drop i) 0 0)) r g o n c i w W) := by
  have gE := eE.lt
  have gU := eU.lt
  have gO := eO.lt
  have gM := eM.lt
  refine (readUvarint_any r g o n c i l aE aU aO aM W h hc hn hi hl hgr (eE.old b) (eU.old b) (eO.old b) (eM.old b) (by omega) (by omega) (by omega) (by omega)).mono ?_
  rintro e w' ⟨hK, j, hj, hR, he⟩
  refine ⟨below_kp b hK b.size (by intro k hk; simp at hk; omega), hK, ?_⟩
  cases hres : uvRd (l.drop i) 0 0 with
  | ok x s =>
    rw [hres] at he
    obtain ⟨rfl, he⟩ := he
    exact ⟨hR, he⟩
  | ends => rw [hres] at he; exact ⟨_, _, he⟩
  | long => rw [hres] at he; exact ⟨_, _, he⟩
  | needless => rw [hres] at he; exact ⟨_, _, he⟩

/-- What PrefixFromBytes comes to. -/
def PfPost (res : Option (Nat × Nat × Nat × Nat)) (w : World) (e : Ending) (w' : World) : Prop :=
  Below w.heap.size w w' ∧ match res with
    | some (x0, x1, x2, x3) => e = .returned (.tuple #[.agg #[.int .u64 x0, .int .u64 x1, .int .u64 x2, .int .i64 x3], .nilIface])
    | none => ∃ a b c d t p, e = .returned (.tuple #[.agg #[.int .u64 a, .int .u64 b, .int .u64 c, .int .i64 d], .iface t p])

end Go.Proofs.YtlafdmmjbkdkaaaGreatDoor

namespace Go.Proofs.YtlafdmmjbkdkaaaGreatDoor
open Go.RowKit

theorem wr_len {c : CidL} (hc : c.tidy) (hd : c.digest.length ≤ 4096) : c.wr.length ≤ 5000 ∧ 0 < c.wr.length := by
  have h1 := Lib.uvarint_length64 (x := c.code) (by rcases hc with ⟨_, _, h, _⟩ | ⟨_, _, h⟩ <;> omega)
  have h2 := Lib.uvarint_length64 (x := c.digest.length) (by omega)
  have h3 := Lib.uvarint_length64 (x := c.codec) (by rcases hc with ⟨_, h, _⟩ | ⟨_, h, _⟩ <;> omega)
  have h4 := Lib.uvarint_length64 (x := 1) (by omega)
  have h5 := Lib.uvarint_pos c.code
  unfold CidL.wr
  split
  · simp only [mhWr, List.length_append]; omega
  · simp only [mhWr, List.length_append]; omega
theorem tidy_bounds {c : CidL} (hc : c.tidy) : c.version < 9223372036854775808 ∧ c.codec < 9223372036854775808 ∧ c.code < 9223372036854775808 := by
  rcases hc with ⟨h0, h1, h2, _⟩ | ⟨h0, h1, h2⟩ <;> omega

end Go.Proofs.YtlafdmmjbkdkaaaGreatDoor

namespace Go.Proofs.YtlafdmmjbkdkaaaGreatDoor
open Go.RowKit

/-- Variable number g holds a text, whatever it is. -/
def Sr (w : World) (g : Nat) : Prop := ∃ s : ByteArray, w.cell? ⟨g, 0, none⟩ = some (.string s)
theorem Sr.old {w w' : World} {g : Nat} (h : Sr w g) (hb : Below w.heap.size w w') : Sr w' g := by
  obtain ⟨s, h⟩ := h
  exact ⟨s, (hb.cell (p := ⟨g, 0, none⟩) (World.block_lt_of_cell? w _ h)).trans h⟩

/-- What Cast comes to, of bytes that begin with the identifier x of k bytes, n bytes in all. -/
def CaPost (x : CidL) (k n : Nat) (w : World) (e : Ending) (w' : World) : Prop :=
  Below w.heap.size w w' ∧ (k = n → e = .returned (.tuple #[.agg #[.string ⟨x.wr.toArray⟩], .nilIface])) ∧ (k ≠ n → ∃ s t p, e = .returned (.tuple #[.agg #[.string s], .iface t p]))

set_option maxRecDepth 100000 in
set_option maxHeartbeats 2000000 in
theorem cidCast_any (g o n c : Nat) (l : List UInt8) (x : CidL) (k : Nat) (w : World) (hn : n = l.length) (hl : l.length ≤ 2147483647) (hlc : l.length ≤ c) (hc : Bs w g o l) (hg : g < w.heap.size) (hr : cdRd l = some (x, k))
    (e0 : Er w 10) (e1 : Er w 11) (e2 : Er w 19) (e3 : Er w 22) (eS : Sr w 12) :
    Calls Tryz.prog 102 #[.slice (some ⟨g, o, none⟩) n c] w (CaPost x k n w) := by
  have b0 : Below w.heap.size w (w.alloc (.cells #[.string ⟨#[]⟩] 193)) := Old.alloc (Below.refl _ _) _
  have B0 := Blk.new w 193 #[.string ⟨#[]⟩]
  have hcf := fun W (hb : Below w.heap.size w W) (hW : w.heap.size ≤ W.heap.size) => cidFromBytes_ok g o n c l x k W hn hl hlc (hc.old hb) (by omega) hr (e0.old hb) (e1.old hb) (e2.old hb) (e3.old hb)
  have HC := Lib.hid hcf
  clear hcf hn hl hlc hc hr e0 e1 e2 e3
  go_enter Tryz.func102, Tryz.ntmps102
  go_wp2_with fail
  generalize w.alloc (.cells #[.string ⟨#[]⟩] 193) = W at *
  refine (HC.out W b0 b0.size).mono ?_
  rintro e w1 ⟨rfl, b1⟩
  have b01 := Old.trans b0 b1
  have B1 := B0.old b1
  clear b0 b1 B0 HC
  have q1 : w1.cell? ⟨w.heap.size, 0, none⟩ = some (.string ⟨#[]⟩) := B1.cell 0
  have f1 := B1.frozen 0
  obtain ⟨sU, hU⟩ := eS.old b01
  have z1 := B1.lt
  by_cases hk : k = n
  · have hki : (k : Int) = (n : Int) := by omega
    have HK := Lib.hid hk
    clear hk
    go_wp2_with fail
    refine bodyPost_ret (ret_cell_tmp rfl rfl ((B1.set_ 0 (.string ⟨x.wr.toArray⟩)).alloc _) Tryz.underlying193 (by kernel_rfl)) rfl ?_
    exact ⟨Old.alloc (b01.setCell (p := ⟨w.heap.size, 0, none⟩) (Nat.le_refl _) _) _, fun _ => rfl, fun h => absurd HK.out h⟩
  · have hki : ((k : Int) == (n : Int)) = false := by simp; omega
    have HK := Lib.hid hk
    have HS := Lib.hid (show ∀ W', Below w1.heap.size w1 W' → Blk W' w.heap.size 193 #[.string ⟨#[]⟩] ∧ W'.cell? ⟨12, 0, none⟩ = some (.string sU) ∧ W'.cell? ⟨w.heap.size, 0, none⟩ = some (.string ⟨#[]⟩) ∧ W'.frozen? ⟨w.heap.size, 0, none⟩ = false from
      fun W' hb' => ⟨B1.old hb', (hb'.cell (p := ⟨12, 0, none⟩) (World.block_lt_of_cell? w1 _ hU)).trans hU, (B1.old hb').cell 0, (B1.old hb').frozen 0⟩)
    clear hk
    have b02 := Old.alloc b01 (.cells #[.string ⟨x.wr.toArray⟩] 193)
    have a1 : Below w1.heap.size w1 (w1.alloc (.cells #[.string ⟨x.wr.toArray⟩] 193)) := Old.alloc (Below.refl _ _) _
    go_wp2_with fail
    generalize w1.alloc (.cells #[.string ⟨x.wr.toArray⟩] 193) = W1 at *
    obtain ⟨BX, u1, q1', f1'⟩ := HS.out W1 a1
    refine wp_region_noPanic ?_
    go_region_with (go_at_call 29; refine (errorsNew_any _ _).mono ?_; rintro _ w2 ⟨⟨t, p, rfl⟩, b2⟩; have b12 : Below w1.heap.size w1 w2 := Old.trans a1 (((Below.refl W1.heap.size W1).drew).trans b2); obtain ⟨B2, u2, q2, f2⟩ := HS.out w2 b12)
    all_goals refine NoPanic.normal ?_
    all_goals go_wp2_with fail
    all_goals refine bodyPost_ret (ret_cell_tmp rfl rfl (B2.set_ 0 (.string sU)) Tryz.underlying193 (by kernel_rfl)) rfl ?_
    all_goals refine ⟨?_, fun h => absurd h HK.out, fun _ => ⟨sU, _, _, rfl⟩⟩
    all_goals first | exact (Old.trans b01 b12).setCell (p := ⟨w.heap.size, 0, none⟩) (Nat.le_refl _) _ | exact RowKit.Below.drew ((Old.trans b01 b12).setCell (p := ⟨w.heap.size, 0, none⟩) (Nat.le_refl _) _)

/-- What CdCast comes to. -/
def CcPost (x : CidL) (k n : Nat) (w : World) (e : Ending) (w' : World) : Prop :=
  Below w.heap.size w w' ∧ (k = n → e = .returned (.tuple #[.agg #[.int .u64 x.version, .int .u64 x.codec, .int .u64 x.code, .string ⟨x.digest.toArray⟩], .bool true])) ∧ (k ≠ n → e = .returned (.tuple #[.agg #[.int .u64 0, .int .u64 0, .int .u64 0, .string ⟨#[]⟩], .bool false]))

end Go.Proofs.YtlafdmmjbkdkaaaGreatDoor
