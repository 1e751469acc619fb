/-
  The walks of impl.CdRead (of a text that begins with an identifier), laws.cdOne, spec.Tidy, laws.cdGood, laws.FnCdParts. Conditions: as each contract says.
-/
import Derived.Test.YtgkhofnedhlgdaaDoorCdF
namespace Go.Proofs.YtgkhofnedhlgdaaDoor
open Go.RowKit

theorem ba_app (a b : List UInt8) : (⟨a.toArray⟩ : ByteArray) ++ ⟨b.toArray⟩ = ⟨(a ++ b).toArray⟩ := by
  apply ByteArray.ext
  simp

/-- An identifier as the thin package has it. -/
abbrev cidV (x : CidL) : Value := .agg #[.int .u64 x.version, .int .u64 x.codec, .int .u64 x.code, .string ⟨x.digest.toArray⟩]

set_option maxRecDepth 100000 in
set_option maxHeartbeats 2000000 in
theorem cdRead_ok (l : List UInt8) (x : CidL) (k : Nat) (w : World) (hl : l.length ≤ 1000000) (hr : cdRd l = some (x, k)) (hd : x.digest.length ≤ 4096)
    (e0 : Er w 2) (e1 : Er w 3) (e2 : Er w 5) (e3 : Er w 7) :
    Calls Tryd.prog 23 #[.string ⟨l.toArray⟩] w fun e w' => e = .returned (.tuple #[.agg #[.int .u64 x.version, .int .u64 x.codec, .int .u64 x.code, .string ⟨x.digest.toArray⟩], .int .i64 k, .bool true]) ∧ Below w.heap.size w w' := by
  have hcv := fun W => Lib.run_convert_string_bytes (P := Tryd.prog) W 9 51 5 ⟨l.toArray⟩ Tryd.underlying9 Tryd.underlying51 Tryd.underlying5
  obtain ⟨V, hV⟩ : ∃ V, w.alloc (.cells #[.int .u64 0, .int .u64 0, .int .u64 0, .string ⟨#[]⟩] 30) = V := ⟨_, rfl⟩
  have bV : Below w.heap.size w V := by rw [← hV]; exact Old.alloc (Below.refl _ _) _
  have BV : Blk V w.heap.size 30 #[.int .u64 0, .int .u64 0, .int .u64 0, .string ⟨#[]⟩] := by rw [← hV]; exact Blk.new _ _ _
  have hVs : V.heap.size = w.heap.size + 1 := by rw [← hV]; simp
  have hb := bw_below V 5 ⟨l.toArray⟩
  have hbs := bw_bs V 5 ⟨l.toArray⟩
  have hsz := bw_size V 5 ⟨l.toArray⟩
  have hgc := grownCap_ge V (⟨l.toArray⟩ : ByteArray).size 0 5
  rw [hVs] at hbs
  go_enter Tryd.func23, Tryd.ntmps23
  go_wp2_with fail
  clear hV hcv
  have bW := Old.trans bV hb
  have BW := BV.old hb
  have gW : w.heap.size + 1 < (Lib.bytesWorld V 5 ⟨l.toArray⟩).heap.size := by omega
  clear hVs hsz bV hb BV
  generalize Lib.bytesWorld V 5 ⟨l.toArray⟩ = W at *
  refine (cidFromBytes_ok (w.heap.size + 1) 0 _ _ l x k W rfl (by omega) hgc hbs gW hr (e0.old bW) (e1.old bW) (e2.old bW) (e3.old bW)).mono ?_
  obtain ⟨ht, h1, h2, h3, h4, h5⟩ := cdRd_some hr
  rintro e w1 ⟨rfl, b1⟩
  have b01 := Old.trans bW b1
  have B1 := BW.old b1
  have HT := Lib.hid (And.intro ht h5)
  clear hr ht h3 h4 h5 hgc hbs BW bW b1 gW
  go_wp2_with fail
  have b02 := Old.alloc b01 (.cells #[.string ⟨x.wr.toArray⟩] 61)
  have B2 := B1.alloc (.cells #[.string ⟨x.wr.toArray⟩] 61)
  generalize w1.alloc (.cells #[.string ⟨x.wr.toArray⟩] 61) = W2 at *
  refine (cidOut_any x x.wr W2 rfl HT.out.1 hd (by rw [← HT.out.2]; omega) (by rw [← HT.out.2]; exact h2) (e0.old b02) (e1.old b02) (e2.old b02) (e3.old b02)).mono ?_
  rintro e w3 ⟨rfl, b3⟩
  have b03 := Old.trans b02 b3
  have B3 := B2.old b3
  have f0 := B3.frozen 0
  have f1 := B3.frozen 1
  have f2 := B3.frozen 2
  have f3 := B3.frozen 3
  have r0 : w3.cell? ⟨w.heap.size, 0, none⟩ = some (.int .u64 0) := B3.cell 0
  have r1 : w3.cell? ⟨w.heap.size, 1, none⟩ = some (.int .u64 0) := B3.cell 1
  have r2 : w3.cell? ⟨w.heap.size, 2, none⟩ = some (.int .u64 0) := B3.cell 2
  have r3 : w3.cell? ⟨w.heap.size, 3, none⟩ = some (.string ⟨#[]⟩) := B3.cell 3
  clear B2 b3 b02 B1 b01
  go_wp2_with fail
  refine bodyPost_ret (ret_cell_tmp_tmp rfl rfl (B3.row [.int .u64 x.version, .int .u64 x.codec, .int .u64 x.code, .string ⟨x.digest.toArray⟩] rfl) Tryd.underlying30 (by kernel_rfl)) rfl ?_
  exact ⟨rfl, below_setCells (Nat.le_refl _) [.int .u64 x.version, .int .u64 x.codec, .int .u64 x.code, .string ⟨x.digest.toArray⟩] 0 _ b03⟩

set_option maxRecDepth 100000 in
set_option maxHeartbeats 2000000 in
theorem cdOne_any (w : World)
    (e0 : Er w 2) (e1 : Er w 3) (e2 : Er w 5) (e3 : Er w 7) :
    Calls Tryd.prog 17 #[] w fun e w' => e = .returned (.bool true) ∧ Below w.heap.size w w' := by
  have ht : (⟨1, 85, 0, [97]⟩ : CidL).tidy := .inr ⟨rfl, by decide, by decide⟩
  have hw : (⟨1, 85, 0, [97]⟩ : CidL).wr = [1, 85, 0, 1, 97] := by
    simp [CidL.wr, mhWr, Lib.uvarint_small]
  have hrd : cdRd [1, 85, 0, 1, 97] = some (⟨1, 85, 0, [97]⟩, 5) := by
    have := cdRd_wr ⟨1, 85, 0, [97]⟩ [] ht (by simp)
    rw [List.append_nil, hw] at this
    exact this
  have hB : ∀ W, Below w.heap.size w W → Calls Tryd.prog 14 #[.agg #[.int .u64 1, .int .u64 85, .int .u64 0, .string ⟨#[97]⟩]] W fun e w' => e = .returned (.tuple #[.string ⟨#[1, 85, 0, 1, 97]⟩, .bool true]) ∧ Below W.heap.size W w' := by
    intro W hb
    have := cdBytes_any ⟨1, 85, 0, [97]⟩ W ht (by simp) (e0.old hb) (e1.old hb) (e2.old hb) (e3.old hb)
    rw [hw] at this
    exact this
  have hR : ∀ W, Below w.heap.size w W → Calls Tryd.prog 23 #[.string ⟨#[1, 85, 0, 1, 97]⟩] W fun e w' => e = .returned (.tuple #[.agg #[.int .u64 1, .int .u64 85, .int .u64 0, .string ⟨#[97]⟩], .int .i64 5, .bool true]) ∧ Below W.heap.size W w' := by
    intro W hb
    exact cdRead_ok [1, 85, 0, 1, 97] ⟨1, 85, 0, [97]⟩ 5 W (by simp) hrd (by simp) (e0.old hb) (e1.old hb) (e2.old hb) (e3.old hb)
  have HB := Lib.hid hB
  have HR := Lib.hid hR
  clear hB hR hw ht hrd e0 e1 e2 e3
  have b0 := Old.alloc (Below.refl w.heap.size w) (.cells #[.int .u64 1, .int .u64 85, .int .u64 0, .string ⟨#[97]⟩] 30)
  have B0 := Blk.new w 30 #[.int .u64 1, .int .u64 85, .int .u64 0, .string ⟨#[97]⟩]
  go_enter Tryd.func17, Tryd.ntmps17
  go_wp2_with fail
  generalize w.alloc (.cells #[.int .u64 1, .int .u64 85, .int .u64 0, .string ⟨#[97]⟩] 30) = W at *
  refine (HB.out W b0).mono ?_
  rintro e w1 ⟨rfl, b1⟩
  have b01 := Old.trans b0 b1
  have B1 := B0.old b1
  clear B0 b0 b1
  go_wp2_with fail
  refine (HR.out w1 b01).mono ?_
  rintro e w2 ⟨rfl, b2⟩
  have b02 := Old.trans b01 b2
  have B2 := B1.old b2
  have r0 : w2.cell? ⟨w.heap.size, 0, none⟩ = some (.int .u64 1) := B2.cell 0
  have r1 : w2.cell? ⟨w.heap.size, 1, none⟩ = some (.int .u64 85) := B2.cell 1
  have r2 : w2.cell? ⟨w.heap.size, 2, none⟩ = some (.int .u64 0) := B2.cell 2
  have r3 : w2.cell? ⟨w.heap.size, 3, none⟩ = some (.string ⟨#[97]⟩) := B2.cell 3
  have z2 := B2.lt
  clear b01 b2 B1 B2
  go_wp2_with fail
  go_ret
  exact ⟨rfl, Old.alloc b02 _⟩


set_option maxRecDepth 100000 in
theorem zzFits1_any (a b c : Value) (d : List UInt8) (w : World) (hd : d.length ≤ 9223372036854775807) :
    Calls Tryd.prog 12 #[.agg #[a, b, c, .string ⟨d.toArray⟩]] w fun e w' => e = .returned (.bool (decide (d.length ≤ 2147483647))) ∧ Below w.heap.size w w' := by
  go_enter Tryd.func12, Tryd.ntmps12
  go_wp2_with fail
  all_goals go_ret
  all_goals refine ⟨?_, (Below.refl _ _).alloc (Nat.le_refl _) _⟩
  all_goals simp
  all_goals omega

/-- Whether an identifier is tidy. -/
def tidyB (v c k : Int) (d : List UInt8) : Bool := if v = 0 then (decide (c = 112) && decide (k = 18) && decide (d.length = 32)) else (decide (v = 1) && decide (c < 9223372036854775808) && decide (k < 9223372036854775808))

set_option maxRecDepth 100000 in
set_option maxHeartbeats 2000000 in
theorem tidy_any (v c k : Int) (d : List UInt8) (w : World) (_ : d.length ≤ 9223372036854775807) :
    Calls Tryd.prog 30 #[.agg #[.int .u64 v, .int .u64 c, .int .u64 k, .string ⟨d.toArray⟩]] w fun e w' => e = .returned (.bool (tidyB v c k d)) ∧ Below w.heap.size w w' := by
  go_enter Tryd.func30, Tryd.ntmps30
  go_wp2_with fail
  all_goals go_ret
  all_goals refine ⟨?_, (Below.refl _ _).alloc (Nat.le_refl _) _⟩
  all_goals simp_all [tidyB]
  · exact Bool.eq_iff_iff.2 (by simp; omega)
  · omega

theorem tidyB_iff (x : CidL) : tidyB x.version x.codec x.code x.digest = true ↔ x.tidy := by
  unfold tidyB CidL.tidy
  by_cases h : (x.version : Int) = 0
  · rw [if_pos h]; simp; omega
  · rw [if_neg h]; simp; omega

set_option maxRecDepth 100000 in
set_option maxHeartbeats 2000000 in
theorem cdGood_any (v c k : Int) (d : List UInt8) (w : World) (hd : d.length ≤ 9223372036854775807) :
    Calls Tryd.prog 13 #[.agg #[.int .u64 v, .int .u64 c, .int .u64 k, .string ⟨d.toArray⟩]] w fun e w' => e = .returned (.bool (decide (d.length ≤ 4096) && tidyB v c k d)) ∧ Below w.heap.size w w' := by
  have b0 := Old.alloc (Below.refl w.heap.size w) (.cells #[.int .u64 v, .int .u64 c, .int .u64 k, .string ⟨d.toArray⟩] 30)
  by_cases h : d.length ≤ 4096
  · go_enter Tryd.func13, Tryd.ntmps13
    go_wp2_with fail
    generalize w.alloc (.cells #[.int .u64 v, .int .u64 c, .int .u64 k, .string ⟨d.toArray⟩] 30) = W at *
    refine (tidy_any v c k d W hd).mono ?_
    rintro e w1 ⟨rfl, b1⟩
    obtain ⟨B, hB⟩ : ∃ B, tidyB v c k d = B := ⟨_, rfl⟩
    rw [hB]
    have HB := Lib.hid hB
    clear hB
    go_wp2_with fail
    go_ret
    exact ⟨by rw [HB.out]; simp [h], Old.trans b0 b1⟩
  · go_enter Tryd.func13, Tryd.ntmps13
    go_wp2_with fail
    go_ret
    exact ⟨by simp, b0⟩

set_option maxRecDepth 100000 in
set_option maxHeartbeats 2000000 in
theorem fnCdParts_walk (v c k : Int) (d : List UInt8) (w : World) (hv : 0 ≤ v ∧ v < 18446744073709551616) (hc : 0 ≤ c ∧ c < 18446744073709551616) (hk : 0 ≤ k ∧ k < 18446744073709551616) (hd : d.length ≤ 9223372036854775807)
    (e0 : Er w 2) (e1 : Er w 3) (e2 : Er w 5) (e3 : Er w 7) :
    Calls Tryd.prog 4 #[.agg #[.int .u64 v, .int .u64 c, .int .u64 k, .string ⟨d.toArray⟩]] w fun e w' => e = .returned (.bool true) ∧ Below w.heap.size w w' := by
  obtain ⟨v, rfl⟩ := Int.eq_ofNat_of_zero_le hv.1
  obtain ⟨c, rfl⟩ := Int.eq_ofNat_of_zero_le hc.1
  obtain ⟨k, rfl⟩ := Int.eq_ofNat_of_zero_le hk.1
  obtain ⟨X, hX⟩ : ∃ X : CidL, X = ⟨v, c, k, d⟩ := ⟨_, rfl⟩
  have b0 := Old.alloc (Below.refl w.heap.size w) (.cells #[.int .u64 v, .int .u64 c, .int .u64 k, .string ⟨d.toArray⟩] 30)
  have B0 := Blk.new w 30 #[.int .u64 v, .int .u64 c, .int .u64 k, .string ⟨d.toArray⟩]
  have HD := Lib.hid hd
  have HV := Lib.hid (And.intro hv (And.intro hc hk))
  clear hv hc hk
  go_enter Tryd.func4, Tryd.ntmps4
  go_wp2_with fail
  generalize w.alloc (.cells #[.int .u64 v, .int .u64 c, .int .u64 k, .string ⟨d.toArray⟩] 30) = W at *
  refine (zzFits1_any _ _ _ d W HD.out).mono ?_
  rintro e w1 ⟨rfl, b1⟩
  have b01 := Old.trans b0 b1
  have B1 := B0.old b1
  clear b0 b1 B0
  obtain ⟨Z, hZ⟩ : ∃ Z, decide (d.length ≤ 2147483647) = Z := ⟨_, rfl⟩
  rw [hZ]
  clear hZ
  cases Z
  · go_wp2_with fail
    go_ret
    exact ⟨rfl, b01⟩
  have a0 : w1.cell? ⟨w.heap.size, 0, none⟩ = some (.int .u64 v) := B1.cell 0
  have a1 : w1.cell? ⟨w.heap.size, 1, none⟩ = some (.int .u64 c) := B1.cell 1
  have a2 : w1.cell? ⟨w.heap.size, 2, none⟩ = some (.int .u64 k) := B1.cell 2
  have a3 : w1.cell? ⟨w.heap.size, 3, none⟩ = some (.string ⟨d.toArray⟩) := B1.cell 3
  go_wp2_with fail
  refine (cdGood_any v c k d w1 HD.out).mono ?_
  rintro e w2 ⟨rfl, b2⟩
  have b02 := Old.trans b01 b2
  have B2 := B1.old b2
  clear b01 b2 B1 a0 a1 a2 a3
  obtain ⟨G, hG⟩ : ∃ G, (decide (d.length ≤ 4096) && tidyB v c k d) = G := ⟨_, rfl⟩
  rw [hG]
  have HG := Lib.hid hG
  clear hG
  cases G
  · go_wp2_with fail
    go_ret
    exact ⟨rfl, b02⟩
  have hg := HG.out
  rw [Bool.and_eq_true] at hg
  have hd4 : d.length ≤ 4096 := by simpa using hg.1
  have ht : X.tidy := by rw [hX]; exact (tidyB_iff ⟨v, c, k, d⟩).1 hg.2
  have HT := Lib.hid ht
  obtain ⟨R, hR⟩ : ∃ R, X.wr = R := ⟨_, rfl⟩
  obtain ⟨M, hM⟩ : ∃ M, mhWr k d = M := ⟨_, rfl⟩
  obtain ⟨F, hF⟩ : ∃ F : Int → List UInt8, F = fun n => Lib.uvarint n.toNat := ⟨_, rfl⟩
  have hput : ∀ n W, (n = 1 ∨ n = (c : Int)) → Calls Tryd.prog 16 #[.int .u64 n] W fun e w' => e = .returned (.string ⟨(F n).toArray⟩) ∧ Below W.heap.size W w' := by
    intro n W hn
    subst hF
    have := HV.out.2.1
    rcases hn with rfl | rfl
    · exact uvPut_any 1 W (by omega) (by omega)
    · exact uvPut_any c W this.1 this.2
  have hl1 : (F 1).length ≤ 10 := by subst hF; exact Lib.uvarint_length64 (by decide)
  have hlc : (F c).length ≤ 10 := by subst hF; exact Lib.uvarint_length64 (by have := HV.out.2.1.2; simp only [Int.toNat_natCast]; omega)
  have hlM : M.length ≤ 1000000 := by
    subst hM
    have h1 := Lib.uvarint_length64 (x := k) (by have := HV.out.2.2.2; omega)
    have h2 := Lib.uvarint_length64 (x := d.length) (by omega)
    simp only [mhWr, List.length_append]; omega
  have hRM : (v = 1 ∧ R = F 1 ++ F c ++ M) ∨ (v = 0 ∧ R = M) := by
    subst hX hR hM hF
    rcases ht with ⟨h0, _⟩ | ⟨h1, _⟩
    · exact .inr ⟨h0, by rw [CidL.wr, if_pos h0]⟩
    · exact .inl ⟨h1, by rw [CidL.wr, if_neg (by simp only at h1 ⊢; omega)]; rfl⟩
  have hbytes : ∀ W, Below w2.heap.size w2 W → Calls Tryd.prog 14 #[.agg #[.int .u64 v, .int .u64 c, .int .u64 k, .string ⟨d.toArray⟩]] W fun e w' => e = .returned (.tuple #[.string ⟨R.toArray⟩, .bool true]) ∧ Below W.heap.size W w' := by
    intro W hb
    subst hX hR
    have b03 := Old.trans b02 hb
    exact cdBytes_any ⟨v, c, k, d⟩ W ht hd4 (e0.old b03) (e1.old b03) (e2.old b03) (e3.old b03)
  have hmh : ∀ W, Calls Tryd.prog 15 #[.int .u64 k, .string ⟨d.toArray⟩] W fun e w' => e = .returned (.string ⟨M.toArray⟩) ∧ Below W.heap.size W w' := by
    intro W
    subst hM
    have := mhEncodeI_any k d W (by omega) HV.out.2.2.2 (by omega)
    rwa [Int.toNat_natCast] at this
  have HH := Lib.hid (And.intro hmh (And.intro hRM hput))
  clear hX hR hM hF hRM hmh HT hput
  have HB := Lib.hid hbytes
  clear hbytes ht hg
  have a0 : w2.cell? ⟨w.heap.size, 0, none⟩ = some (.int .u64 v) := B2.cell 0
  have a1 : w2.cell? ⟨w.heap.size, 1, none⟩ = some (.int .u64 c) := B2.cell 1
  have a2 : w2.cell? ⟨w.heap.size, 2, none⟩ = some (.int .u64 k) := B2.cell 2
  have a3 : w2.cell? ⟨w.heap.size, 3, none⟩ = some (.string ⟨d.toArray⟩) := B2.cell 3
  go_wp2_with fail
  refine (HB.out w2 (Below.refl _ _)).mono ?_
  rintro e w3 ⟨rfl, b3⟩
  have b03 := Old.trans b02 b3
  have B3 := B2.old b3
  clear b02 b3 B2 a0 a1 a2 a3
  have a0 : w3.cell? ⟨w.heap.size, 0, none⟩ = some (.int .u64 v) := B3.cell 0
  have a1 : w3.cell? ⟨w.heap.size, 1, none⟩ = some (.int .u64 c) := B3.cell 1
  have a2 : w3.cell? ⟨w.heap.size, 2, none⟩ = some (.int .u64 k) := B3.cell 2
  have a3 : w3.cell? ⟨w.heap.size, 3, none⟩ = some (.string ⟨d.toArray⟩) := B3.cell 3
  go_wp2_with fail
  refine (HH.out.1 w3).mono ?_
  rintro e w4 ⟨rfl, b4⟩
  have b04 := Old.trans b03 b4
  have B4 := B3.old b4
  clear b03 b4 B3 a0 a1 a2 a3
  have hone := fun W (hb : Below w4.heap.size w4 W) => cdOne_any W (e0.old (Old.trans b04 hb)) (e1.old (Old.trans b04 hb)) (e2.old (Old.trans b04 hb)) (e3.old (Old.trans b04 hb))
  have HO := Lib.hid hone
  clear hone e0 e1 e2 e3
  have HP := Lib.hid HH.out.2.2
  rcases HH.out.2.1 with ⟨rfl, rfl⟩ | ⟨rfl, rfl⟩
  · have a0 : w4.cell? ⟨w.heap.size, 0, none⟩ = some (.int .u64 1) := B4.cell 0
    have a1 : w4.cell? ⟨w.heap.size, 1, none⟩ = some (.int .u64 c) := B4.cell 1
    have zz := B4.lt
    clear HB HH HG HD HV
    go_wp2_with fail
    generalize w4 = W at *
    have HS := Lib.hid (show ∀ W', Below W.heap.size W W' → W'.cell? ⟨w.heap.size, 1, none⟩ = some (.int .u64 c) from fun W' hb => (hb.cell (p := ⟨w.heap.size, 1, none⟩) zz).trans a1)
    have happ := ba_app
    go_region_with (go_at_call 16; refine (HP.out _ _ (by simp)).mono ?_; rintro _ w5 ⟨rfl, b5⟩; first | (have b6 : Below W.heap.size W w5 := ((Below.refl W.heap.size W).drew).trans b5; have a6 := HS.out w5 b6) | skip)
    all_goals go_wp2_with fail
    all_goals have b7 := Old.trans b6 b5
    all_goals refine (HO.out _ b7).mono ?_
    all_goals rintro e w8 ⟨rfl, b8⟩
    all_goals go_wp2_with fail
    all_goals go_ret
    all_goals exact ⟨rfl, Old.trans b04 (Old.trans b7 b8)⟩
  · have a0 : w4.cell? ⟨w.heap.size, 0, none⟩ = some (.int .u64 0) := B4.cell 0
    go_wp2_with fail
    refine (HO.out w4 (Below.refl _ _)).mono ?_
    rintro e w5 ⟨rfl, b5⟩
    go_wp2_with fail
    go_ret
    exact ⟨rfl, Old.trans b04 b5⟩
end Go.Proofs.YtgkhofnedhlgdaaDoor
