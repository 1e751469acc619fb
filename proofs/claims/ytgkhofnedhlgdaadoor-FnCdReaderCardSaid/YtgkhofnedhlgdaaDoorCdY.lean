/-
  The walks of impl.CdPrefix, CdPrefixRead, laws.FnCdPrefixCut. Conditions: as each contract says.
-/
import Derived.Test.YtgkhofnedhlgdaaDoorCdX
namespace Go.Proofs.YtgkhofnedhlgdaaDoor
open Go.RowKit

theorem wr_len {c : CidL} (hc : c.tidy) (hd : c.digest.length ≤ 4096) : c.wr.length ≤ 5000 ∧ 0 < c.wr.length := by
  have h1 := Lib.uvarint_length64 (x := c.code) (by rcases hc with ⟨_, _, h, _⟩ | ⟨_, _, h⟩ <;> omega)
  have h2 := Lib.uvarint_length64 (x := c.digest.length) (by omega)
  have h3 := Lib.uvarint_length64 (x := c.codec) (by rcases hc with ⟨_, h, _⟩ | ⟨_, h, _⟩ <;> omega)
  have h4 := Lib.uvarint_length64 (x := 1) (by omega)
  have h5 := Lib.uvarint_pos c.code
  unfold CidL.wr
  split
  · simp only [mhWr, List.length_append]; omega
  · simp only [mhWr, List.length_append]; omega
theorem tidy_bounds {c : CidL} (hc : c.tidy) : c.version < 9223372036854775808 ∧ c.codec < 9223372036854775808 ∧ c.code < 9223372036854775808 := by
  rcases hc with ⟨h0, h1, h2, _⟩ | ⟨h0, h1, h2⟩ <;> omega

set_option maxRecDepth 100000 in
set_option maxHeartbeats 2000000 in
theorem cdPrefix_any (c : CidL) (w : World) (hc : c.tidy) (hd : c.digest.length ≤ 4096)
    (e0 : Er w 2) (e1 : Er w 3) (e2 : Er w 5) (e3 : Er w 7) :
    Calls Tryd.prog 18 #[.agg #[.int .u64 c.version, .int .u64 c.codec, .int .u64 c.code, .string ⟨c.digest.toArray⟩]] w fun e w' => e = .returned (.tuple #[.string ⟨(pfWr c.version c.codec c.code c.digest.length).toArray⟩, .bool true]) ∧ Below w.heap.size w w' := by
  have bA : Below w.heap.size w (w.alloc (.cells #[.int .u64 c.version, .int .u64 c.codec, .int .u64 c.code, .string ⟨c.digest.toArray⟩] 30)) := Old.alloc (Below.refl _ _) _
  have HC := Lib.hid hc
  clear hc
  go_enter Tryd.func18, Tryd.ntmps18
  go_wp2_with fail
  generalize w.alloc (.cells #[.int .u64 c.version, .int .u64 c.codec, .int .u64 c.code, .string ⟨c.digest.toArray⟩] 30) = W at *
  refine (cidIn_any c W HC.out hd (e0.old bA) (e1.old bA) (e2.old bA) (e3.old bA)).mono ?_
  rintro _ w1 ⟨rfl, b1⟩
  have b01 := Old.trans bA b1
  have b02 : Below w.heap.size w (w1.alloc (.cells #[.string ⟨c.wr.toArray⟩] 61)) := Old.alloc b01 _
  clear b1 bA
  go_wp2_with fail
  generalize w1.alloc (.cells #[.string ⟨c.wr.toArray⟩] 61) = V at *
  have hwl := wr_len HC.out hd
  refine (prefix_any c c.wr V rfl HC.out hd (by omega)).mono ?_
  rintro _ w2 ⟨rfl, b2⟩
  have b03 := Old.trans b02 b2
  have HB := Lib.hid hwl
  clear hwl b2 b02
  go_wp2_with fail
  have ht := tidy_bounds HC.out
  refine (prefixBytes_any c.version c.codec c.code c.digest.length w2 ⟨ht.1, ht.2.1, ht.2.2, by omega⟩).mono ?_
  rintro e w3 ⟨g, rfl, b3, hbs, hg⟩
  have hcv := conv_str (P := Tryd.prog) Tryd.underlying51 Tryd.underlying5 Tryd.underlying9 (n := (pfWr c.version c.codec c.code c.digest.length).length) (c := (pfWr c.version c.codec c.code c.digest.length).length) hbs rfl
  have b04 := Old.trans b03 b3
  clear ht b3 b03 hbs
  go_wp2_with fail
  go_ret2
  exact ⟨rfl, b04⟩

set_option maxRecDepth 100000 in
set_option maxHeartbeats 2000000 in
theorem cdPrefixRead_any (l : List UInt8) (aE aU aO aM : Addr) (w : World) (hl : l.length ≤ 2147483647)
    (eE : Ee w 0 aE) (eU : Ee w 1 aU) (eO : Ee w 2 aO) (eM : Ee w 3 aM) :
    Calls Tryd.prog 19 #[.string ⟨l.toArray⟩] w fun e w' => (∃ a b c d : Value, e = .returned (.tuple #[a, b, c, d, .bool (pfRd l).isSome])) ∧ Below w.heap.size w w' := by
  have hcv := fun W => Lib.run_convert_string_bytes (P := Tryd.prog) W 9 51 5 ⟨l.toArray⟩ Tryd.underlying9 Tryd.underlying51 Tryd.underlying5
  have hb := bw_below w 5 ⟨l.toArray⟩
  have hbs := bw_bs w 5 ⟨l.toArray⟩
  have hsz := bw_size w 5 ⟨l.toArray⟩
  go_enter Tryd.func19, Tryd.ntmps19
  go_wp2_with fail
  generalize Lib.bytesWorld w 5 ⟨l.toArray⟩ = W at *
  have hp := prefixFromBytes_any w.heap.size 0 l.length (grownCap w (⟨l.toArray⟩ : ByteArray).size 0 5) l aE aU aO aM W rfl hl hbs (by omega) (eE.old hb) (eU.old hb) (eO.old hb) (eM.old hb)
  refine hp.mono ?_
  clear hcv hp
  cases hr : pfRd l with
  | none =>
    rintro e w1 ⟨b1, a, b, c, d, t, p, rfl⟩
    have b02 := Old.alloc (Old.trans hb b1) (.cells #[.int .u64 a, .int .u64 b, .int .u64 c, .int .i64 d] 69)
    go_wp2_with fail
    go_quiet (fail)
    go_wp2_with fail
    refine bodyPost_ret (results_tmp5 rfl _ _ _) rfl ?_
    rw [hr]
    exact ⟨⟨_, _, _, _, rfl⟩, below_drewN b02 _⟩
  | some x =>
    obtain ⟨x0, x1, x2, x3⟩ := x
    rintro e w1 ⟨b1, rfl⟩
    have b02 := Old.alloc (Old.trans hb b1) (.cells #[.int .u64 x0, .int .u64 x1, .int .u64 x2, .int .i64 x3] 69)
    go_wp2_with fail
    go_quiet (fail)
    go_wp2_with fail
    refine bodyPost_ret (results_tmp5 rfl _ _ _) rfl ?_
    rw [hr]
    exact ⟨⟨_, _, _, _, rfl⟩, below_drewN b02 _⟩

set_option maxRecDepth 100000 in
set_option maxHeartbeats 2000000 in
theorem fnCdPrefixCut_walk (v c k : Int) (d : List UInt8) (cut : Int) (aE aU aO aM : Addr) (w : World) (hv : 0 ≤ v ∧ v < 18446744073709551616) (hc : 0 ≤ c ∧ c < 18446744073709551616) (hk : 0 ≤ k ∧ k < 18446744073709551616) (hd : d.length ≤ 9223372036854775807) (hcut0 : 0 ≤ cut) (hcut1 : cut < 256)
    (eE : Ee w 0 aE) (eU : Ee w 1 aU) (eO : Ee w 2 aO) (eM : Ee w 3 aM)
    (e2 : Er w 5) (e3 : Er w 7) :
    Calls Tryd.prog 5 #[.agg #[.int .u64 v, .int .u64 c, .int .u64 k, .string ⟨d.toArray⟩], .int .u8 cut] w fun e w' => e = .returned (.bool true) ∧ Below w.heap.size w w' := by
  obtain ⟨v, rfl⟩ := Int.eq_ofNat_of_zero_le hv.1
  obtain ⟨c, rfl⟩ := Int.eq_ofNat_of_zero_le hc.1
  obtain ⟨k, rfl⟩ := Int.eq_ofNat_of_zero_le hk.1
  obtain ⟨cut, rfl⟩ := Int.eq_ofNat_of_zero_le hcut0
  have b0 := Old.alloc (Below.refl w.heap.size w) (.cells #[.int .u64 v, .int .u64 c, .int .u64 k, .string ⟨d.toArray⟩] 30)
  have B0 := Blk.new w 30 #[.int .u64 v, .int .u64 c, .int .u64 k, .string ⟨d.toArray⟩]
  have HD := Lib.hid hd
  have HV := Lib.hid (And.intro hv (And.intro hc hk))
  clear hv hc hk
  go_enter Tryd.func5, Tryd.ntmps5
  go_wp2_with fail
  generalize w.alloc (.cells #[.int .u64 v, .int .u64 c, .int .u64 k, .string ⟨d.toArray⟩] 30) = W at *
  refine (zzFits1_any _ _ _ d W HD.out).mono ?_
  rintro e w1 ⟨rfl, b1⟩
  have b01 := Old.trans b0 b1
  have B1 := B0.old b1
  clear b0 b1 B0
  obtain ⟨Z, hZ⟩ : ∃ Z, decide (d.length ≤ 2147483647) = Z := ⟨_, rfl⟩
  rw [hZ]
  clear hZ
  cases Z
  · go_wp2_with fail
    go_ret
    exact ⟨rfl, b01⟩
  have a0 : w1.cell? ⟨w.heap.size, 0, none⟩ = some (.int .u64 v) := B1.cell 0
  have a1 : w1.cell? ⟨w.heap.size, 1, none⟩ = some (.int .u64 c) := B1.cell 1
  have a2 : w1.cell? ⟨w.heap.size, 2, none⟩ = some (.int .u64 k) := B1.cell 2
  have a3 : w1.cell? ⟨w.heap.size, 3, none⟩ = some (.string ⟨d.toArray⟩) := B1.cell 3
  go_wp2_with fail
  refine (cdGood_any v c k d w1 HD.out).mono ?_
  rintro e w2 ⟨rfl, b2⟩
  have b02 := Old.trans b01 b2
  have B2 := B1.old b2
  clear b01 b2 B1 a0 a1 a2 a3
  obtain ⟨G, hG⟩ : ∃ G, (decide (d.length ≤ 4096) && tidyB v c k d) = G := ⟨_, rfl⟩
  rw [hG]
  have HG := Lib.hid hG
  clear hG
  cases G
  · go_wp2_with fail
    go_ret
    exact ⟨rfl, b02⟩
  have hg := HG.out
  rw [Bool.and_eq_true] at hg
  have hd4 : d.length ≤ 4096 := by simpa using hg.1
  have ht : (⟨v, c, k, d⟩ : CidL).tidy := (tidyB_iff ⟨v, c, k, d⟩).1 hg.2
  have hb := tidy_bounds ht
  obtain ⟨S, hS⟩ : ∃ S, pfWr v c k d.length = S := ⟨_, rfl⟩
  have hSl : S.length ≤ 40 ∧ 0 < S.length := by
    rw [← hS]
    have h1 := Lib.uvarint_length64 (x := v) (by have := HV.out.1.2; omega)
    have h2 := Lib.uvarint_length64 (x := c) (by have := HV.out.2.1.2; omega)
    have h3 := Lib.uvarint_length64 (x := k) (by have := HV.out.2.2.2; omega)
    have h4 := Lib.uvarint_length64 (x := d.length) (by omega)
    have h5 := Lib.uvarint_pos v
    simp only [pfWr, List.length_append]; omega
  have hwhole : pfRd S = some (v, c, k, d.length) := by
    have := pfRd_wr v c k d.length [] hb.1 hb.2.1 hb.2.2 (by omega)
    rwa [List.append_nil, hS] at this
  have hcutoff : pfRd (S.take (cut % S.length)) = none := by
    have := pfRd_cut v c k d.length (cut % S.length) hb.1 hb.2.1 hb.2.2 (by omega) (by rw [hS]; exact Nat.mod_lt _ hSl.2)
    rwa [hS] at this
  have hpf : Calls Tryd.prog 18 #[.agg #[.int .u64 v, .int .u64 c, .int .u64 k, .string ⟨d.toArray⟩]] w2 fun e w' => e = .returned (.tuple #[.string ⟨S.toArray⟩, .bool true]) ∧ Below w2.heap.size w2 w' := by
    have := cdPrefix_any ⟨v, c, k, d⟩ w2 ht hd4 (eO.er.old b02) (eM.er.old b02) (e2.old b02) (e3.old b02)
    rwa [hS] at this
  have HH := Lib.hid (And.intro hpf (And.intro hwhole hcutoff))
  have hS1 := hSl.1
  have hS0 := hSl.2
  have hne : S.isEmpty = false := by cases S with | nil => simp at hS0 | cons _ _ => rfl
  clear hpf hwhole hcutoff hb ht hg hS hSl HG HV HD
  have a0 : w2.cell? ⟨w.heap.size, 0, none⟩ = some (.int .u64 v) := B2.cell 0
  have a1 : w2.cell? ⟨w.heap.size, 1, none⟩ = some (.int .u64 c) := B2.cell 1
  have a2 : w2.cell? ⟨w.heap.size, 2, none⟩ = some (.int .u64 k) := B2.cell 2
  have a3 : w2.cell? ⟨w.heap.size, 3, none⟩ = some (.string ⟨d.toArray⟩) := B2.cell 3
  go_wp2_with fail
  refine HH.out.1.mono ?_
  rintro e w3 ⟨rfl, b3⟩
  have b03 := Old.trans b02 b3
  clear a0 a1 a2 a3 B2 b02 b3
  have hm1 : (cut : Int) % (S.length : Int) ≤ (S.length : Int) := Int.le_of_lt (Int.emod_lt_of_pos _ (by omega))
  have hm0 : (0 : Int) ≤ (cut : Int) % (S.length : Int) := Int.emod_nonneg _ (by omega)
  go_wp2_with fail
  rw [str_to S (cut % S.length)]
  refine (cdPrefixRead_any (S.take (cut % S.length)) aE aU aO aM w3 (by rw [List.length_take]; omega) (eE.old b03) (eU.old b03) (eO.old b03) (eM.old b03)).mono ?_
  rw [HH.out.2.2]
  rintro e w4 ⟨⟨x0, x1, x2, x3, rfl⟩, b4⟩
  have b04 := Old.trans b03 b4
  clear hm0 hm1 b4
  simp only [Option.isSome_none]
  go_wp2_with fail
  refine (cdPrefixRead_any S aE aU aO aM w4 (by omega) (eE.old b04) (eU.old b04) (eO.old b04) (eM.old b04)).mono ?_
  rw [HH.out.2.1]
  rintro e w5 ⟨⟨y0, y1, y2, y3, rfl⟩, b5⟩
  simp only [Option.isSome_some]
  go_wp2_with fail
  go_ret
  exact ⟨rfl, Old.trans b04 b5⟩
end Go.Proofs.YtgkhofnedhlgdaaDoor
