/-
  Prefixes: their bytes and the reading of them; the walks of Prefix.Bytes, PrefixFromBytes, impl.CdPrefix, CdPrefixRead, laws.FnCdPrefixCut. Conditions: as each contract says.
-/
import Derived.Test.YtgkhofnedhlgdaaDoorCdP
import Derived.Test.YtgkhofnedhlgdaaDoorRdL
namespace Go.Proofs.YtgkhofnedhlgdaaDoor
open Go.RowKit

/-- A prefix's bytes. -/
def pfWr (x0 x1 x2 x3 : Nat) : List UInt8 := Lib.uvarint x0 ++ Lib.uvarint x1 ++ Lib.uvarint x2 ++ Lib.uvarint x3

def okOf : UvR → Option (Nat × Nat)
  | .ok x n => some (x, n)
  | _ => none
theorem okOf_some {r : UvR} {x n : Nat} (h : okOf r = some (x, n)) : r = .ok x n := by
  cases r with
  | ok a b => simp [okOf] at h; rw [h.1, h.2]
  | _ => simp [okOf] at h

/-- The reading of four numbers, one behind the other. -/
def pfRd (l : List UInt8) : Option (Nat × Nat × Nat × Nat) :=
  match okOf (uvRd l 0 0) with
  | none => none
  | some (x0, n0) => match okOf (uvRd (l.drop n0) 0 0) with
    | none => none
    | some (x1, n1) => match okOf (uvRd (l.drop (n0 + n1)) 0 0) with
      | none => none
      | some (x2, n2) => match okOf (uvRd (l.drop (n0 + n1 + n2)) 0 0) with
        | none => none
        | some (x3, _) => some (x0, x1, x2, x3)

theorem uvRd_ok_len {l : List UInt8} {x n : Nat} (h : uvRd l 0 0 = .ok x n) : n = (Lib.uvarint x).length ∧ l = Lib.uvarint x ++ l.drop n := by
  obtain ⟨h1, h2⟩ := uvRd_canon0 h
  exact ⟨h2, by rw [← h1, List.take_append_drop]⟩

theorem pfRd_some {l : List UInt8} {x0 x1 x2 x3 : Nat} (h : pfRd l = some (x0, x1, x2, x3)) : ∃ r, l = pfWr x0 x1 x2 x3 ++ r ∧ x0 < 9223372036854775808 ∧ x1 < 9223372036854775808 ∧ x2 < 9223372036854775808 ∧ x3 < 9223372036854775808 := by
  unfold pfRd at h
  split at h
  · cases h
  · rename_i y0 n0 h0
    split at h
    · cases h
    · rename_i y1 n1 h1
      split at h
      · cases h
      · rename_i y2 n2 h2
        split at h
        · cases h
        · rename_i y3 n3 h3
          injection h with h
          injection h with e0 h
          injection h with e1 h
          injection h with e2 e3
          subst e0 e1 e2 e3
          replace h0 := okOf_some h0
          replace h1 := okOf_some h1
          replace h2 := okOf_some h2
          replace h3 := okOf_some h3
          obtain ⟨a0, b0⟩ := uvRd_ok_len h0
          obtain ⟨a1, b1⟩ := uvRd_ok_len h1
          obtain ⟨a2, b2⟩ := uvRd_ok_len h2
          obtain ⟨a3, b3⟩ := uvRd_ok_len h3
          rw [List.drop_drop] at b1 b2 b3
          refine ⟨l.drop (n0 + n1 + n2 + n3), ?_, (uvRd_ok0 h0).2.2.2, (uvRd_ok0 h1).2.2.2, (uvRd_ok0 h2).2.2.2, (uvRd_ok0 h3).2.2.2⟩
          rw [pfWr, List.append_assoc, List.append_assoc, List.append_assoc, ← b3, ← b2, ← b1, ← b0]

theorem pfRd_wr (x0 x1 x2 x3 : Nat) (r : List UInt8) (h0 : x0 < 9223372036854775808) (h1 : x1 < 9223372036854775808) (h2 : x2 < 9223372036854775808) (h3 : x3 < 9223372036854775808) : pfRd (pfWr x0 x1 x2 x3 ++ r) = some (x0, x1, x2, x3) := by
  have e : pfWr x0 x1 x2 x3 ++ r = Lib.uvarint x0 ++ (Lib.uvarint x1 ++ (Lib.uvarint x2 ++ (Lib.uvarint x3 ++ r))) := by simp [pfWr]
  have d1 : (pfWr x0 x1 x2 x3 ++ r).drop (Lib.uvarint x0).length = Lib.uvarint x1 ++ (Lib.uvarint x2 ++ (Lib.uvarint x3 ++ r)) := by rw [e, List.drop_left]
  have d2 : (pfWr x0 x1 x2 x3 ++ r).drop ((Lib.uvarint x0).length + (Lib.uvarint x1).length) = Lib.uvarint x2 ++ (Lib.uvarint x3 ++ r) := by rw [← List.drop_drop, d1, List.drop_left]
  have d3 : (pfWr x0 x1 x2 x3 ++ r).drop ((Lib.uvarint x0).length + (Lib.uvarint x1).length + (Lib.uvarint x2).length) = Lib.uvarint x3 ++ r := by rw [← List.drop_drop, d2, List.drop_left]
  unfold pfRd
  rw [show uvRd (pfWr x0 x1 x2 x3 ++ r) 0 0 = .ok x0 (Lib.uvarint x0).length by rw [e]; exact uvRd_uvarint _ _ h0]
  simp only [okOf, d1, uvRd_uvarint x1 _ h1, d2, uvRd_uvarint x2 _ h2, d3, uvRd_uvarint x3 _ h3]

/-- Cut off ahead of their end they are no prefix. -/
theorem pfRd_cut (x0 x1 x2 x3 j : Nat) (h0 : x0 < 9223372036854775808) (h1 : x1 < 9223372036854775808) (h2 : x2 < 9223372036854775808) (h3 : x3 < 9223372036854775808) (hj : j < (pfWr x0 x1 x2 x3).length) : pfRd ((pfWr x0 x1 x2 x3).take j) = none := by
  cases h : pfRd ((pfWr x0 x1 x2 x3).take j) with
  | none => rfl
  | some y =>
    obtain ⟨y0, y1, y2, y3⟩ := y
    exfalso
    obtain ⟨r, hr, k0, k1, k2, k3⟩ := pfRd_some h
    have hw : pfWr x0 x1 x2 x3 = pfWr y0 y1 y2 y3 ++ (r ++ (pfWr x0 x1 x2 x3).drop j) := by
      rw [← List.append_assoc, ← hr, List.take_append_drop]
    have a := pfRd_wr x0 x1 x2 x3 [] h0 h1 h2 h3
    have b := pfRd_wr y0 y1 y2 y3 (r ++ (pfWr x0 x1 x2 x3).drop j) k0 k1 k2 k3
    rw [List.append_nil] at a
    rw [← hw, a] at b
    injection b with b
    injection b with e0 b
    injection b with e1 b
    injection b with e2 e3
    subst e0 e1 e2 e3
    have hl := congrArg List.length hw
    rw [List.length_append, List.length_append, List.length_drop] at hl
    omega

set_option maxRecDepth 100000 in
set_option maxHeartbeats 2000000 in
theorem prefixBytes_any (x0 x1 x2 x3 : Nat) (w : World) (hx : x0 < 9223372036854775808 ∧ x1 < 9223372036854775808 ∧ x2 < 9223372036854775808 ∧ x3 < 9223372036854775808) :
    Calls Tryd.prog 36 #[.agg #[.int .u64 x0, .int .u64 x1, .int .u64 x2, .int .i64 x3]] w fun e w' =>
      ∃ g, e = .returned (.slice (some ⟨g, 0, none⟩) (pfWr x0 x1 x2 x3).length (pfWr x0 x1 x2 x3).length) ∧ Below w.heap.size w w' ∧ Bs w' g 0 (pfWr x0 x1 x2 x3) ∧ g < w'.heap.size := by
  obtain ⟨i0, hi, hz0, hz1, hz2⟩ := info_parts info5
  have hL0 := Lib.uvarint_length64 (x := x0) (by omega)
  have hL1 := Lib.uvarint_length64 (x := x1) (by omega)
  have hL2 := Lib.uvarint_length64 (x := x2) (by omega)
  have hL3 := Lib.uvarint_length64 (x := x3) (by omega)
  have hw3 : IntKind.u64.wrap (x3 : Int) = (x3 : Int) := by rw [IntKind.wrap_u64]; omega
  unfold pfWr
  obtain ⟨A, hA⟩ : ∃ A, Lib.uvarint x0 = A := ⟨_, rfl⟩
  obtain ⟨B, hB⟩ : ∃ B, Lib.uvarint x1 = B := ⟨_, rfl⟩
  obtain ⟨C, hC⟩ : ∃ C, Lib.uvarint x2 = C := ⟨_, rfl⟩
  obtain ⟨D, hD⟩ : ∃ D, Lib.uvarint x3 = D := ⟨_, rfl⟩
  rw [hA] at hL0 ⊢
  rw [hB] at hL1 ⊢
  rw [hC] at hL2 ⊢
  rw [hD] at hL3 ⊢
  obtain ⟨n2, hn2⟩ : ∃ n2, A.length + B.length = n2 := ⟨_, rfl⟩
  obtain ⟨n3, hn3⟩ : ∃ n3, n2 + C.length = n3 := ⟨_, rfl⟩
  obtain ⟨N, hN⟩ : ∃ N, n3 + D.length = N := ⟨_, rfl⟩
  have hlen : (A ++ B ++ C ++ D).length = N := by simp only [List.length_append]; omega
  rw [hlen]
  have hDp : 0 < D.length := by rw [← hD]; exact Lib.uvarint_pos _
  have hmk : ∀ W : World, (Instr.makeSlice 51 (.int .i64 (N : Int)) (.int .i64 (N : Int))).run Tryd.prog W = .ok (.slice (some ⟨W.heap.size, 0, none⟩) N N) (W.alloc (.cells (madeCells #[.int .u8 0] N) 5)) := by
    intro W
    have hr := run_make (P := Tryd.prog) W 51 5 i0 (.int .u8 0) Tryd.underlying51 hi hz0 .i64 .i64 (N : Nat) (N : Nat) (by omega) (by omega) (by rw [hz2]; omega) (by omega)
    simpa [hz1, Value.cells] using hr
  have ht0 : (madeCells #[Value.int .u8 0] N).toList = List.replicate N (.int .u8 0) := toList_madeCells_one _ _
  obtain ⟨zs, hzs⟩ : ∃ zs, madeCells #[Value.int .u8 0] N = zs := ⟨_, rfl⟩
  rw [hzs] at hmk ht0
  have hzl : zs.toList.length = N := by rw [ht0]; simp
  clear ht0 hzs
  have e2 : (A.length : Int) + (B.length : Int) = (n2 : Int) := by omega
  have e3 : (n2 : Int) + (C.length : Int) = (n3 : Int) := by omega
  have e4 : (n3 : Int) + (D.length : Int) = (N : Int) := by omega
  have k1 : (A.length : Int) ≤ (N : Int) := by omega
  have k2 : (n2 : Int) ≤ (N : Int) := by omega
  have k3 : (n3 : Int) ≤ (N : Int) := by omega
  have k4 : ¬ N = A.length := by omega
  have k5 : ¬ N = n2 := by omega
  have k6 : ¬ N = n3 := by omega
  have k7 : n2 ≤ 20 := by omega
  have k8 : n3 ≤ 30 := by omega
  have k9 : N ≤ 40 := by omega
  have g2 : IntKind.i64.wrap (n2 : Int) = (n2 : Int) := by rw [IntKind.wrap_i64] <;> omega
  have g3 : IntKind.i64.wrap (n3 : Int) = (n3 : Int) := by rw [IntKind.wrap_i64] <;> omega
  have g4 : IntKind.i64.wrap (N : Int) = (N : Int) := by rw [IntKind.wrap_i64] <;> omega
  have HX := Lib.hid hx
  have H := Lib.hid (And.intro hA (And.intro hB (And.intro hC (And.intro hD (And.intro hn2 (And.intro hn3 hN))))))
  have HZ := Lib.hid hzl
  clear hx hA hB hC hD hzl hn2 hn3 hN hlen
  have b0 := Old.alloc (Below.refl w.heap.size w) (.cells #[.int .u64 x0, .int .u64 x1, .int .u64 x2, .int .i64 x3] 69)
  have B0 := Blk.new w 69 #[.int .u64 x0, .int .u64 x1, .int .u64 x2, .int .i64 x3]
  go_enter Tryd.func36, Tryd.ntmps36
  go_wp2_with fail
  generalize w.alloc (.cells #[.int .u64 x0, .int .u64 x1, .int .u64 x2, .int .i64 x3] 69) = W at *
  have c0 : W.cell? ⟨w.heap.size, 0, none⟩ = some (.int .u64 x0) := B0.cell 0
  have c1 : W.cell? ⟨w.heap.size, 1, none⟩ = some (.int .u64 x1) := B0.cell 1
  have c2 : W.cell? ⟨w.heap.size, 2, none⟩ = some (.int .u64 x2) := B0.cell 2
  have c3 : W.cell? ⟨w.heap.size, 3, none⟩ = some (.int .i64 x3) := B0.cell 3
  have hs := uvarintSize_any x0 W (by omega) (by have := HX.out; omega)
  rw [Int.toNat_natCast, H.out.1] at hs
  refine hs.mono ?_
  clear hs
  rintro _ w1 ⟨rfl, rfl⟩
  go_wp2_with fail
  have hs := uvarintSize_any x1 W (by omega) (by have := HX.out; omega)
  rw [Int.toNat_natCast, H.out.2.1] at hs
  refine hs.mono ?_
  clear hs
  rintro _ w1 ⟨rfl, rfl⟩
  go_wp2_with fail
  have hs := uvarintSize_any x2 W (by omega) (by have := HX.out; omega)
  rw [Int.toNat_natCast, H.out.2.2.1] at hs
  refine hs.mono ?_
  clear hs
  rintro _ w1 ⟨rfl, rfl⟩
  go_wp2_with fail
  have hs := uvarintSize_any x3 W (by omega) (by have := HX.out; omega)
  rw [Int.toNat_natCast, H.out.2.2.2.1] at hs
  refine hs.mono ?_
  clear hs
  rintro _ w1 ⟨rfl, rfl⟩
  obtain ⟨V, hV⟩ : ∃ V, W.alloc (.cells zs 5) = V := ⟨_, rfl⟩
  obtain ⟨G, hG⟩ : ∃ G, W.heap.size = G := ⟨_, rfl⟩
  have hGw : w.heap.size < G := by rw [← hG]; exact B0.lt
  have bV : Below w.heap.size w V := by rw [← hV]; exact Old.alloc b0 _
  have BV : Blk V G 5 ([] ++ zs.toList).toArray := by rw [← hV, ← hG]; simpa using Blk.new W 5 zs
  have BP : Blk V w.heap.size 69 #[.int .u64 x0, .int .u64 x1, .int .u64 x2, .int .i64 x3] := by rw [← hV]; exact B0.alloc _
  have d0 : V.cell? ⟨w.heap.size, 0, none⟩ = some (.int .u64 x0) := BP.cell 0
  go_wp2_with fail
  clear hV hG hmk B0 b0 c0 c1 c2 c3 d0
  have hzl := HZ.out
  have hp := putUvarint_any G 0 N N x0 (by have := HX.out; omega) V (by rw [H.out.1]; have := H.out.2.2.2.2; omega) (by
    intro j hj; rw [H.out.1] at hj; rw [Nat.zero_add]; exact blk_some BV (by simp only [List.nil_append]; have := H.out.2.2.2.2; omega))
  rw [H.out.1] at hp
  refine hp.mono ?_
  clear hp
  rintro _ w1 ⟨rfl, h⟩
  have b1 : Below w.heap.size w w1 := by rw [h]; exact below_setCells (Nat.le_of_lt hGw) _ _ _ bV
  have P1 : Blk w1 w.heap.size 69 #[.int .u64 x0, .int .u64 x1, .int .u64 x2, .int .i64 x3] := by
    rw [h]
    exact (below_setCells (B := G) (a := V) (Nat.le_refl _) (Lib.byteCells A) 0 V (Below.refl _ _)).block _ hGw |>.trans BP
  have B1 := blk_mid BV 0 rfl (Lib.byteCells A) (by rw [Lib.byteCells_length]; have := H.out.2.2.2.2; omega)
  rw [← h, List.nil_append, Lib.byteCells_length] at B1
  clear h BV bV BP hzl
  have d1 : w1.cell? ⟨w.heap.size, 1, none⟩ = some (.int .u64 x1) := P1.cell 1
  have hp := putUvarint_any G (A.length) (N - (A.length)) (N - (A.length)) x1 (by have := HX.out; omega) w1.drew (by rw [H.out.2.1]; have := H.out.2.2.2.2; omega) (by
    have hzl := HZ.out
    have hH := H.out.2.2.2.2
    intro j hj; rw [H.out.2.1] at hj; exact blk_some B1.drew (by simp only [List.length_append, Lib.byteCells_length, List.length_drop]; omega))
  rw [H.out.2.1] at hp
  have HP := Lib.hid hp
  clear hp
  go_wp2_with fail
  go_region_with (go_at_call 48; refine HP.out.mono ?_; rintro _ w2 ⟨rfl, h⟩; replace h := Lib.hid h)
  replace h := h.out
  have hzl := HZ.out
  have hH := H.out.2.2.2.2
  have b2 : Below w.heap.size w w2 := by rw [h]; exact below_setCells (Nat.le_of_lt hGw) _ _ _ (RowKit.Below.drew b1)
  have P2 : Blk w2 w.heap.size 69 #[.int .u64 x0, .int .u64 x1, .int .u64 x2, .int .i64 x3] := by
    rw [h]
    exact (below_setCells (B := G) (a := w1.drew) (Nat.le_refl _) (Lib.byteCells B) _ w1.drew (Below.refl _ _)).block _ hGw |>.trans P1.drew
  have B2 := blk_mid B1.drew (A.length) (Lib.byteCells_length _) (Lib.byteCells B) (by simp only [Lib.byteCells_length, List.length_drop]; omega)
  rw [← h, ← Lib.byteCells_append, Lib.byteCells_length, List.drop_drop] at B2
  clear h B1 P1 b1 hzl d1 HP hH
  have d1 : w2.cell? ⟨w.heap.size, 2, none⟩ = some (.int .u64 x2) := P2.cell 2
  have hp := putUvarint_any G (n2) (N - (n2)) (N - (n2)) x2 (by have := HX.out; omega) w2.drew (by rw [H.out.2.2.1]; have := H.out.2.2.2.2; omega) (by
    have hzl := HZ.out
    have hH := H.out.2.2.2.2
    intro j hj; rw [H.out.2.2.1] at hj; exact blk_some B2.drew (by simp only [List.length_append, Lib.byteCells_length, List.length_drop]; omega))
  rw [H.out.2.2.1] at hp
  have HP := Lib.hid hp
  clear hp
  go_wp2_with fail
  go_region_with (go_at_call 48; refine HP.out.mono ?_; rintro _ w3 ⟨rfl, h⟩; replace h := Lib.hid h)
  replace h := h.out
  have hzl := HZ.out
  have hH := H.out.2.2.2.2
  have b3 : Below w.heap.size w w3 := by rw [h]; exact below_setCells (Nat.le_of_lt hGw) _ _ _ (RowKit.Below.drew b2)
  have P3 : Blk w3 w.heap.size 69 #[.int .u64 x0, .int .u64 x1, .int .u64 x2, .int .i64 x3] := by
    rw [h]
    exact (below_setCells (B := G) (a := w2.drew) (Nat.le_refl _) (Lib.byteCells C) _ w2.drew (Below.refl _ _)).block _ hGw |>.trans P2.drew
  have B3 := blk_mid B2.drew (n2) (by simp only [Lib.byteCells_length, List.length_append]; omega) (Lib.byteCells C) (by simp only [Lib.byteCells_length, List.length_drop]; omega)
  rw [← h, ← Lib.byteCells_append, Lib.byteCells_length, List.drop_drop] at B3
  clear h B2 P2 b2 hzl d1 HP hH
  have d1 : w3.cell? ⟨w.heap.size, 3, none⟩ = some (.int .i64 x3) := P3.cell 3
  have hp := putUvarint_any G (n3) (N - (n3)) (N - (n3)) x3 (by have := HX.out; omega) w3.drew (by rw [H.out.2.2.2.1]; have := H.out.2.2.2.2; omega) (by
    have hzl := HZ.out
    have hH := H.out.2.2.2.2
    intro j hj; rw [H.out.2.2.2.1] at hj; exact blk_some B3.drew (by simp only [List.length_append, Lib.byteCells_length, List.length_drop]; omega))
  rw [H.out.2.2.2.1] at hp
  have HP := Lib.hid hp
  clear hp
  go_wp2_with fail
  go_region_with (go_at_call 48; refine HP.out.mono ?_; rintro _ w4 ⟨rfl, h⟩; replace h := Lib.hid h)
  replace h := h.out
  have hzl := HZ.out
  have hH := H.out.2.2.2.2
  have b4 : Below w.heap.size w w4 := by rw [h]; exact below_setCells (Nat.le_of_lt hGw) _ _ _ (RowKit.Below.drew b3)
  have P4 : Blk w4 w.heap.size 69 #[.int .u64 x0, .int .u64 x1, .int .u64 x2, .int .i64 x3] := by
    rw [h]
    exact (below_setCells (B := G) (a := w3.drew) (Nat.le_refl _) (Lib.byteCells D) _ w3.drew (Below.refl _ _)).block _ hGw |>.trans P3.drew
  have B4 := blk_mid B3.drew (n3) (by simp only [Lib.byteCells_length, List.length_append]; omega) (Lib.byteCells D) (by simp only [Lib.byteCells_length, List.length_drop]; omega)
  rw [← h, ← Lib.byteCells_append, Lib.byteCells_length, List.drop_drop] at B4
  clear h B3 P3 b3 hzl d1 HP hH
  go_wp2_with fail
  go_ret
  have hzl := HZ.out
  have hH := H.out.2.2.2.2
  rw [List.drop_of_length_le (by omega), List.append_nil] at B4
  exact ⟨G, rfl, b4, bs_blk B4, B4.lt⟩

/-- What one reading comes to. -/
def RsPost (res : Option (Nat × Nat)) (r g o n c i : Nat) (w W : World) (e : Ending) (w' : World) : Prop :=
  Below w.heap.size w w' ∧ Kp [r] W w' ∧ match res with
    | some (x, s) => Rdr w' r g o n c (i + s) ∧ e = .returned (.tuple #[.int .u64 x, .nilIface])
    | none => ∃ t p, e = .returned (.tuple #[.int .u64 0, .iface t p])

theorem readStep (r g o n c i : Nat) (l : List UInt8) (aE aU aO aM : Addr) (w W : World) (b : Below w.heap.size w W) (h : Rdr W r g o n c i) (hc : Bs W g o l) (hn : n = l.length) (hi : i ≤ n) (hl : l.length ≤ 4611686018427387904) (hgr : g ≠ r) (hr : w.heap.size ≤ r)
    (eE : Ee w 0 aE) (eU : Ee w 1 aU) (eO : Ee w 2 aO) (eM : Ee w 3 aM) :
    Calls Tryd.prog 26 #[.iface 49 (.pointer (some ⟨r, 0, none⟩))] W (RsPost (okOf (uvRd (l.drop i) 0 0)) r g o n c i w W) := by
  have gE := eE.lt
  have gU := eU.lt
  have gO := eO.lt
  have gM := eM.lt
  refine (readUvarint_any r g o n c i l aE aU aO aM W h hc hn hi hl hgr (eE.old b) (eU.old b) (eO.old b) (eM.old b) (by omega) (by omega) (by omega) (by omega)).mono ?_
  rintro e w' ⟨hK, j, hj, hR, he⟩
  refine ⟨below_kp b hK b.size (by intro k hk; simp at hk; omega), hK, ?_⟩
  cases hres : uvRd (l.drop i) 0 0 with
  | ok x s =>
    rw [hres] at he
    obtain ⟨rfl, he⟩ := he
    exact ⟨hR, he⟩
  | ends => rw [hres] at he; exact ⟨_, _, he⟩
  | long => rw [hres] at he; exact ⟨_, _, he⟩
  | needless => rw [hres] at he; exact ⟨_, _, he⟩

/-- What PrefixFromBytes comes to. -/
def PfPost (res : Option (Nat × Nat × Nat × Nat)) (w : World) (e : Ending) (w' : World) : Prop :=
  Below w.heap.size w w' ∧ match res with
    | some (x0, x1, x2, x3) => e = .returned (.tuple #[.agg #[.int .u64 x0, .int .u64 x1, .int .u64 x2, .int .i64 x3], .nilIface])
    | none => ∃ a b c d t p, e = .returned (.tuple #[.agg #[.int .u64 a, .int .u64 b, .int .u64 c, .int .i64 d], .iface t p])

set_option maxRecDepth 100000 in
set_option maxHeartbeats 2000000 in
theorem prefixFromBytes_any (g o n c : Nat) (l : List UInt8) (aE aU aO aM : Addr) (w : World) (hn : n = l.length) (hl : l.length ≤ 2147483647) (hc : Bs w g o l) (hg : g < w.heap.size)
    (eE : Ee w 0 aE) (eU : Ee w 1 aU) (eO : Ee w 2 aO) (eM : Ee w 3 aM) :
    Calls Tryd.prog 37 #[.slice (some ⟨g, o, none⟩) n c] w (PfPost (pfRd l) w) := by
  have b0 := Old.alloc (Below.refl w.heap.size w) (.cells #[.int .u64 0, .int .u64 0, .int .u64 0, .int .i64 0] 69)
  have B0 := Blk.new w 69 #[.int .u64 0, .int .u64 0, .int .u64 0, .int .i64 0]
  have HN := Lib.hid hn
  clear hn
  go_enter Tryd.func37, Tryd.ntmps37
  go_wp2_with fail
  generalize w.alloc (.cells #[.int .u64 0, .int .u64 0, .int .u64 0, .int .i64 0] 69) = W at *
  have z0 := B0.lt
  refine (newReader_any g o n c W).mono ?_
  obtain ⟨r, hr⟩ : ∃ r, W.heap.size = r := ⟨_, rfl⟩
  rw [hr]
  rintro _ w1 ⟨rfl, hR, b1⟩
  have b01 : Below w.heap.size w w1 := b0.trans (b1.mono (by omega))
  have B1 := B0.below b1 (by omega)
  have hc1 := hc.old b01
  have hrw : w.heap.size < r := by omega
  clear hr b0 b1 B0 z0 hc
  have hs := readStep r g o n c 0 l aE aU aO aM w w1 b01 hR hc1 HN.out (Nat.zero_le _) (by omega) (by omega) (by omega) eE eU eO eM
  rw [List.drop_zero] at hs
  obtain ⟨P, hP⟩ : ∃ P, pfRd l = P := ⟨_, rfl⟩
  have hP' := hP
  have HPP := Lib.hid hP
  unfold pfRd at hP'
  have HP := Lib.hid hP'
  clear hP hP'
  obtain ⟨q0, hq0⟩ : ∃ q, okOf (uvRd l 0 0) = q := ⟨_, rfl⟩
  have hs := readStep r g o n c 0 l aE aU aO aM w w1 b01 hR hc1 HN.out (Nat.zero_le _) (by omega) (by omega) (by omega) eE eU eO eM
  rw [List.drop_zero, hq0] at hs
  have HS0 := Lib.hid hs
  clear hs
  cases q0 with
  | none =>
    have hPn : P = none := by
      have hp := HP.out
      simp only [hq0] at hp
      exact hp.symm
    subst hPn
    clear hq0 HP
    go_wp2_with fail
    refine HS0.out.mono ?_
    rintro e w2 ⟨b02, hK, t, p, rfl⟩
    have B2 := B1.kp hK (by simp; omega)
    have c0 : w2.cell? ⟨w.heap.size, 0, none⟩ = some (.int .u64 0) := B2.cell 0
    have c1 : w2.cell? ⟨w.heap.size, 1, none⟩ = some (.int .u64 0) := B2.cell 1
    have c2 : w2.cell? ⟨w.heap.size, 2, none⟩ = some (.int .u64 0) := B2.cell 2
    have c3 : w2.cell? ⟨w.heap.size, 3, none⟩ = some (.int .i64 0) := B2.cell 3
    have f0 := B2.frozen 0
    have f1 := B2.frozen 1
    have f2 := B2.frozen 2
    have f3 := B2.frozen 3
    go_wp2_with fail
    refine bodyPost_ret (ret_cell_tmp rfl rfl (B2.row [.int .u64 0, .int .u64 0, .int .u64 0, .int .i64 0] rfl) Tryd.underlying69 (by kernel_rfl)) rfl ?_
    rw [HPP.out]
    exact ⟨below_setCells (Nat.le_refl _) [.int .u64 0, .int .u64 0, .int .u64 0, .int .i64 0] 0 _ b02, 0, 0, 0, 0, _, _, rfl⟩
  | some y0 =>
    obtain ⟨x0, n0⟩ := y0
    have ho := okOf_some hq0
    have ho := uvRd_ok0 ho
    have hi1 : n0 ≤ n := by rw [HN.out]; exact ho.2.1
    have hx0 := Lib.hid ho.2.2.2
    clear ho
    go_wp2_with fail
    refine HS0.out.mono ?_
    rintro e w2 ⟨b02, hK, hR, rfl⟩
    rw [Nat.zero_add] at hR
    have B2 := B1.kp hK (by simp; omega)
    have hc2 := hc1.kp hK (by simp; omega)
    clear hK HS0 B1 hc1 b01
    obtain ⟨q1, hq1⟩ : ∃ q, okOf (uvRd (l.drop n0) 0 0) = q := ⟨_, rfl⟩
    have hs := readStep r g o n c (n0) l aE aU aO aM w w2 b02 hR hc2 HN.out hi1 (by omega) (by omega) (by omega) eE eU eO eM
    rw [hq1] at hs
    have HS1 := Lib.hid hs
    clear hs
    cases q1 with
    | none =>
      have hPn : P = none := by
        have hp := HP.out
        simp only [hq0, hq1] at hp
        exact hp.symm
      subst hPn
      clear hq0 hq1 HP
      go_wp2_with fail
      refine HS1.out.mono ?_
      rintro e w3 ⟨b03, hK, t, p, rfl⟩
      have B3 := B2.kp hK (by simp; omega)
      have c0 : w3.cell? ⟨w.heap.size, 0, none⟩ = some (.int .u64 0) := B3.cell 0
      have c1 : w3.cell? ⟨w.heap.size, 1, none⟩ = some (.int .u64 0) := B3.cell 1
      have c2 : w3.cell? ⟨w.heap.size, 2, none⟩ = some (.int .u64 0) := B3.cell 2
      have c3 : w3.cell? ⟨w.heap.size, 3, none⟩ = some (.int .i64 0) := B3.cell 3
      have f0 := B3.frozen 0
      have f1 := B3.frozen 1
      have f2 := B3.frozen 2
      have f3 := B3.frozen 3
      go_wp2_with fail
      refine bodyPost_ret (ret_cell_tmp rfl rfl (B3.row [.int .u64 0, .int .u64 0, .int .u64 0, .int .i64 0] rfl) Tryd.underlying69 (by kernel_rfl)) rfl ?_
      rw [HPP.out]
      exact ⟨below_setCells (Nat.le_refl _) [.int .u64 0, .int .u64 0, .int .u64 0, .int .i64 0] 0 _ b03, 0, 0, 0, 0, _, _, rfl⟩
    | some y1 =>
      obtain ⟨x1, n1⟩ := y1
      have ho := okOf_some hq1
      have ho := uvRd_ok0 ho
      have hi2 : n0 + n1 ≤ n := by have h := ho.2.1; rw [List.length_drop, ← HN.out] at h; omega
      have hx1 := Lib.hid ho.2.2.2
      clear ho
      go_wp2_with fail
      refine HS1.out.mono ?_
      rintro e w3 ⟨b03, hK, hR, rfl⟩
      have B3 := B2.kp hK (by simp; omega)
      have hc3 := hc2.kp hK (by simp; omega)
      clear hK HS1 B2 hc2 b02
      obtain ⟨q2, hq2⟩ : ∃ q, okOf (uvRd (l.drop (n0 + n1)) 0 0) = q := ⟨_, rfl⟩
      have hs := readStep r g o n c (n0 + n1) l aE aU aO aM w w3 b03 hR hc3 HN.out hi2 (by omega) (by omega) (by omega) eE eU eO eM
      rw [hq2] at hs
      have HS2 := Lib.hid hs
      clear hs
      cases q2 with
      | none =>
        have hPn : P = none := by
          have hp := HP.out
          simp only [hq0, hq1, hq2] at hp
          exact hp.symm
        subst hPn
        clear hq0 hq1 hq2 HP
        go_wp2_with fail
        refine HS2.out.mono ?_
        rintro e w4 ⟨b04, hK, t, p, rfl⟩
        have B4 := B3.kp hK (by simp; omega)
        have c0 : w4.cell? ⟨w.heap.size, 0, none⟩ = some (.int .u64 0) := B4.cell 0
        have c1 : w4.cell? ⟨w.heap.size, 1, none⟩ = some (.int .u64 0) := B4.cell 1
        have c2 : w4.cell? ⟨w.heap.size, 2, none⟩ = some (.int .u64 0) := B4.cell 2
        have c3 : w4.cell? ⟨w.heap.size, 3, none⟩ = some (.int .i64 0) := B4.cell 3
        have f0 := B4.frozen 0
        have f1 := B4.frozen 1
        have f2 := B4.frozen 2
        have f3 := B4.frozen 3
        go_wp2_with fail
        refine bodyPost_ret (ret_cell_tmp rfl rfl (B4.row [.int .u64 0, .int .u64 0, .int .u64 0, .int .i64 0] rfl) Tryd.underlying69 (by kernel_rfl)) rfl ?_
        rw [HPP.out]
        exact ⟨below_setCells (Nat.le_refl _) [.int .u64 0, .int .u64 0, .int .u64 0, .int .i64 0] 0 _ b04, 0, 0, 0, 0, _, _, rfl⟩
      | some y2 =>
        obtain ⟨x2, n2⟩ := y2
        have ho := okOf_some hq2
        have ho := uvRd_ok0 ho
        have hi3 : n0 + n1 + n2 ≤ n := by have h := ho.2.1; rw [List.length_drop, ← HN.out] at h; omega
        have hx2 := Lib.hid ho.2.2.2
        clear ho
        go_wp2_with fail
        refine HS2.out.mono ?_
        rintro e w4 ⟨b04, hK, hR, rfl⟩
        have B4 := B3.kp hK (by simp; omega)
        have hc4 := hc3.kp hK (by simp; omega)
        clear hK HS2 B3 hc3 b03
        obtain ⟨q3, hq3⟩ : ∃ q, okOf (uvRd (l.drop (n0 + n1 + n2)) 0 0) = q := ⟨_, rfl⟩
        have hs := readStep r g o n c (n0 + n1 + n2) l aE aU aO aM w w4 b04 hR hc4 HN.out hi3 (by omega) (by omega) (by omega) eE eU eO eM
        rw [hq3] at hs
        have HS3 := Lib.hid hs
        clear hs
        cases q3 with
        | none =>
          have hPn : P = none := by
            have hp := HP.out
            simp only [hq0, hq1, hq2, hq3] at hp
            exact hp.symm
          subst hPn
          clear hq0 hq1 hq2 hq3 HP
          go_wp2_with fail
          refine HS3.out.mono ?_
          rintro e w5 ⟨b05, hK, t, p, rfl⟩
          have B5 := B4.kp hK (by simp; omega)
          have c0 : w5.cell? ⟨w.heap.size, 0, none⟩ = some (.int .u64 0) := B5.cell 0
          have c1 : w5.cell? ⟨w.heap.size, 1, none⟩ = some (.int .u64 0) := B5.cell 1
          have c2 : w5.cell? ⟨w.heap.size, 2, none⟩ = some (.int .u64 0) := B5.cell 2
          have c3 : w5.cell? ⟨w.heap.size, 3, none⟩ = some (.int .i64 0) := B5.cell 3
          have f0 := B5.frozen 0
          have f1 := B5.frozen 1
          have f2 := B5.frozen 2
          have f3 := B5.frozen 3
          go_wp2_with fail
          refine bodyPost_ret (ret_cell_tmp rfl rfl (B5.row [.int .u64 0, .int .u64 0, .int .u64 0, .int .i64 0] rfl) Tryd.underlying69 (by kernel_rfl)) rfl ?_
          rw [HPP.out]
          exact ⟨below_setCells (Nat.le_refl _) [.int .u64 0, .int .u64 0, .int .u64 0, .int .i64 0] 0 _ b05, 0, 0, 0, 0, _, _, rfl⟩
        | some y3 =>
          obtain ⟨x3, n3⟩ := y3
          have ho := okOf_some hq3
          have ho := uvRd_ok0 ho
          have hi4 : n0 + n1 + n2 + n3 ≤ n := by have h := ho.2.1; rw [List.length_drop, ← HN.out] at h; omega
          have hx3 := Lib.hid ho.2.2.2
          clear ho
          go_wp2_with fail
          refine HS3.out.mono ?_
          rintro e w5 ⟨b05, hK, hR, rfl⟩
          have B5 := B4.kp hK (by simp; omega)
          have hc5 := hc4.kp hK (by simp; omega)
          clear hK HS3 B4 hc4 b04
          have hPs : P = some (x0, x1, x2, x3) := by
            have hp := HP.out
            simp only [hq0, hq1, hq2, hq3] at hp
            exact hp.symm
          subst hPs
          clear hq0 hq1 hq2 hq3 HP
          have hw3 : IntKind.i64.wrap (x3 : Int) = (x3 : Int) := by rw [IntKind.wrap_i64]; have := hx3.out; omega
          have c0 : w5.cell? ⟨w.heap.size, 0, none⟩ = some (.int .u64 0) := B5.cell 0
          have c1 : w5.cell? ⟨w.heap.size, 1, none⟩ = some (.int .u64 0) := B5.cell 1
          have c2 : w5.cell? ⟨w.heap.size, 2, none⟩ = some (.int .u64 0) := B5.cell 2
          have c3 : w5.cell? ⟨w.heap.size, 3, none⟩ = some (.int .i64 0) := B5.cell 3
          have f0 := B5.frozen 0
          have f1 := B5.frozen 1
          have f2 := B5.frozen 2
          have f3 := B5.frozen 3
          go_wp2_with fail
          refine bodyPost_ret (ret_cell_tmp rfl rfl (B5.row [.int .u64 x0, .int .u64 x1, .int .u64 x2, .int .i64 x3] rfl) Tryd.underlying69 (by kernel_rfl)) rfl ?_
          rw [HPP.out]
          exact ⟨below_setCells (Nat.le_refl _) [.int .u64 x0, .int .u64 x1, .int .u64 x2, .int .i64 x3] 0 _ b05, rfl⟩
end Go.Proofs.YtgkhofnedhlgdaaDoor
