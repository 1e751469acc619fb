/-
  The walks of impl.CdReader, cid.Cast, impl.CdCast (of bytes that begin with an identifier) and laws.FnCdBack. Conditions: as each contract says.
-/
import Derived.Test.YtgkhofnedhlgdaaDoorCfr
import Derived.Test.YtgkhofnedhlgdaaDoorCdY
namespace Go.Proofs.YtgkhofnedhlgdaaDoor
open Go.RowKit

/-- Variable number g holds a text, whatever it is. -/
def Sr (w : World) (g : Nat) : Prop := ∃ s : ByteArray, w.cell? ⟨g, 0, none⟩ = some (.string s)
theorem Sr.old {w w' : World} {g : Nat} (h : Sr w g) (hb : Below w.heap.size w w') : Sr w' g := by
  obtain ⟨s, h⟩ := h
  exact ⟨s, (hb.cell (p := ⟨g, 0, none⟩) (World.block_lt_of_cell? w _ h)).trans h⟩

set_option maxRecDepth 100000 in
set_option maxHeartbeats 2000000 in
theorem cdReader_ok (l : List UInt8) (x : CidL) (k : Nat) (aE aU aO aM : Addr) (w : World) (hl : l.length ≤ 1000000) (hr : cdRd l = some (x, k)) (hd : x.digest.length ≤ 4096)
    (eE : Ee w 0 aE) (eU : Ee w 1 aU) (eO : Ee w 2 aO) (eM : Ee w 3 aM) (e2 : Er w 5) (e3 : Er w 7) :
    Calls Tryd.prog 21 #[.string ⟨l.toArray⟩] w fun e w' => e = .returned (.tuple #[.agg #[.int .u64 x.version, .int .u64 x.codec, .int .u64 x.code, .string ⟨x.digest.toArray⟩], .int .i64 k, .int .u8 0]) ∧ Below w.heap.size w w' := by
  have hcv := fun W => Lib.run_convert_string_bytes (P := Tryd.prog) W 9 51 5 ⟨l.toArray⟩ Tryd.underlying9 Tryd.underlying51 Tryd.underlying5
  obtain ⟨V, hV⟩ : ∃ V, w.alloc (.cells #[.int .u64 0, .int .u64 0, .int .u64 0, .string ⟨#[]⟩] 30) = V := ⟨_, rfl⟩
  have bV : Below w.heap.size w V := by rw [← hV]; exact Old.alloc (Below.refl _ _) _
  have BV : Blk V w.heap.size 30 #[.int .u64 0, .int .u64 0, .int .u64 0, .string ⟨#[]⟩] := by rw [← hV]; exact Blk.new _ _ _
  have hVs : V.heap.size = w.heap.size + 1 := by rw [← hV]; simp
  have hb := bw_below V 5 ⟨l.toArray⟩
  have hbs := bw_bs V 5 ⟨l.toArray⟩
  have hsz := bw_size V 5 ⟨l.toArray⟩
  have hgc := grownCap_ge V (⟨l.toArray⟩ : ByteArray).size 0 5
  rw [hVs] at hbs
  have gE := eE.lt
  have gU := eU.lt
  have gO := eO.lt
  have gM := eM.lt
  have g2 : 5 < w.heap.size := by obtain ⟨t, p, h⟩ := e2; exact World.block_lt_of_cell? w _ h
  have g3 : 7 < w.heap.size := by obtain ⟨t, p, h⟩ := e3; exact World.block_lt_of_cell? w _ h
  go_enter Tryd.func21, Tryd.ntmps21
  go_wp2_with fail
  clear hV hcv
  have bW := Old.trans bV hb
  have BW := BV.old hb
  have hWs : (Lib.bytesWorld V 5 ⟨l.toArray⟩).heap.size = w.heap.size + 1 + 1 := by omega
  clear hVs hsz bV hb BV
  generalize Lib.bytesWorld V 5 ⟨l.toArray⟩ = W at *
  have hnr := newReader_any (w.heap.size + 1) 0 l.length (grownCap V (⟨l.toArray⟩ : ByteArray).size 0 5) W
  rw [hWs] at hnr
  have HNR := Lib.hid hnr
  have HW := Lib.hid hWs
  clear hnr hWs
  refine HNR.out.mono ?_
  rintro e w1 ⟨rfl, R1, b1⟩
  have b01 : Below w.heap.size w w1 := bW.trans (b1.mono (by omega))
  have BR1 := BW.below b1 (by omega)
  have hc1 : Bs w1 (w.heap.size + 1) 0 l := hbs.below b1 (by omega)
  have z1 := R1.lt
  have hcf := cidFromReader_ok (w.heap.size + 1 + 1) (w.heap.size + 1) 0 l.length _ l x k aE aU aO aM w1 R1 hc1 rfl hgc hl (by omega) (by omega) hr hd (eE.old b01) (eU.old b01) (eO.old b01) (eM.old b01) (e2.old b01) (e3.old b01) (by omega) (by omega) (by omega) (by omega) (by omega) (by omega)
  have HC := Lib.hid hcf
  obtain ⟨ht, h1, h2, h3, h4, h5⟩ := cdRd_some hr
  have HT := Lib.hid (And.intro ht (And.intro h1 (And.intro h2 h5)))
  clear hcf HNR BW hbs bW R1 hc1 b1 hgc hr ht h1 h2 h3 h4 h5
  go_wp2_with fail
  refine HC.out.mono ?_
  rintro e w2 ⟨rfl, _, k2⟩
  have b02 := below_kp b01 k2 (by omega) (by intro i hi; simp at hi; omega)
  have B2 := BR1.kp k2 (by simp; omega)
  clear HC k2 b01 BR1
  go_wp2_with fail
  have b03 := Old.alloc b02 (.cells #[.string ⟨x.wr.toArray⟩] 61)
  have B3 := B2.alloc (.cells #[.string ⟨x.wr.toArray⟩] 61)
  clear B2 b02
  generalize w2.alloc (.cells #[.string ⟨x.wr.toArray⟩] 61) = W2 at *
  have hk : k ≤ 1000000 := by have := HT.out.2.1; omega
  refine (cidOut_any x x.wr W2 rfl HT.out.1 hd (by rw [← HT.out.2.2.2]; exact hk) (by rw [← HT.out.2.2.2]; exact HT.out.2.2.1) (eO.er.old b03) (eM.er.old b03) (e2.old b03) (e3.old b03)).mono ?_
  rintro e w3 ⟨rfl, b3⟩
  have b04 := Old.trans b03 b3
  have B4 := B3.old b3
  have f0 := B4.frozen 0
  have f1 := B4.frozen 1
  have f2 := B4.frozen 2
  have f3 := B4.frozen 3
  have r0 : w3.cell? ⟨w.heap.size, 0, none⟩ = some (.int .u64 0) := B4.cell 0
  have r1 : w3.cell? ⟨w.heap.size, 1, none⟩ = some (.int .u64 0) := B4.cell 1
  have r2 : w3.cell? ⟨w.heap.size, 2, none⟩ = some (.int .u64 0) := B4.cell 2
  have r3 : w3.cell? ⟨w.heap.size, 3, none⟩ = some (.string ⟨#[]⟩) := B4.cell 3
  clear B3 b3 b03
  go_wp2_with fail
  refine bodyPost_ret (ret_cell_tmp_tmp rfl rfl (B4.row [.int .u64 x.version, .int .u64 x.codec, .int .u64 x.code, .string ⟨x.digest.toArray⟩] rfl) Tryd.underlying30 (by kernel_rfl)) rfl ?_
  exact ⟨rfl, below_setCells (Nat.le_refl _) [.int .u64 x.version, .int .u64 x.codec, .int .u64 x.code, .string ⟨x.digest.toArray⟩] 0 _ b04⟩

/-- What Cast comes to, of bytes that begin with the identifier x of k bytes, n bytes in all. -/
def CaPost (x : CidL) (k n : Nat) (w : World) (e : Ending) (w' : World) : Prop :=
  Below w.heap.size w w' ∧ (k = n → e = .returned (.tuple #[.agg #[.string ⟨x.wr.toArray⟩], .nilIface])) ∧ (k ≠ n → ∃ s t p, e = .returned (.tuple #[.agg #[.string s], .iface t p]))

set_option maxRecDepth 100000 in
set_option maxHeartbeats 2000000 in
theorem cidCast_any (g o n c : Nat) (l : List UInt8) (x : CidL) (k : Nat) (w : World) (hn : n = l.length) (hl : l.length ≤ 2147483647) (hlc : l.length ≤ c) (hc : Bs w g o l) (hg : g < w.heap.size) (hr : cdRd l = some (x, k))
    (e0 : Er w 2) (e1 : Er w 3) (e2 : Er w 5) (e3 : Er w 7) (eS : Sr w 4) :
    Calls Tryd.prog 42 #[.slice (some ⟨g, o, none⟩) n c] w (CaPost x k n w) := by
  have b0 : Below w.heap.size w (w.alloc (.cells #[.string ⟨#[]⟩] 61)) := Old.alloc (Below.refl _ _) _
  have B0 := Blk.new w 61 #[.string ⟨#[]⟩]
  have hcf := fun W (hb : Below w.heap.size w W) (hW : w.heap.size ≤ W.heap.size) => cidFromBytes_ok g o n c l x k W hn hl hlc (hc.old hb) (by omega) hr (e0.old hb) (e1.old hb) (e2.old hb) (e3.old hb)
  have HC := Lib.hid hcf
  clear hcf hn hl hlc hc hr e0 e1 e2 e3
  go_enter Tryd.func42, Tryd.ntmps42
  go_wp2_with fail
  generalize w.alloc (.cells #[.string ⟨#[]⟩] 61) = W at *
  refine (HC.out W b0 b0.size).mono ?_
  rintro e w1 ⟨rfl, b1⟩
  have b01 := Old.trans b0 b1
  have B1 := B0.old b1
  clear b0 b1 B0 HC
  have q1 : w1.cell? ⟨w.heap.size, 0, none⟩ = some (.string ⟨#[]⟩) := B1.cell 0
  have f1 := B1.frozen 0
  obtain ⟨sU, hU⟩ := eS.old b01
  have z1 := B1.lt
  by_cases hk : k = n
  · have hki : (k : Int) = (n : Int) := by omega
    have HK := Lib.hid hk
    clear hk
    go_wp2_with fail
    refine bodyPost_ret (ret_cell_tmp rfl rfl ((B1.set_ 0 (.string ⟨x.wr.toArray⟩)).alloc _) Tryd.underlying61 (by kernel_rfl)) rfl ?_
    exact ⟨Old.alloc (b01.setCell (p := ⟨w.heap.size, 0, none⟩) (Nat.le_refl _) _) _, fun _ => rfl, fun h => absurd HK.out h⟩
  · have hki : ((k : Int) == (n : Int)) = false := by simp; omega
    have HK := Lib.hid hk
    have HS := Lib.hid (show ∀ W', Below w1.heap.size w1 W' → Blk W' w.heap.size 61 #[.string ⟨#[]⟩] ∧ W'.cell? ⟨4, 0, none⟩ = some (.string sU) ∧ W'.cell? ⟨w.heap.size, 0, none⟩ = some (.string ⟨#[]⟩) ∧ W'.frozen? ⟨w.heap.size, 0, none⟩ = false from
      fun W' hb' => ⟨B1.old hb', (hb'.cell (p := ⟨4, 0, none⟩) (World.block_lt_of_cell? w1 _ hU)).trans hU, (B1.old hb').cell 0, (B1.old hb').frozen 0⟩)
    clear hk
    have b02 := Old.alloc b01 (.cells #[.string ⟨x.wr.toArray⟩] 61)
    have a1 : Below w1.heap.size w1 (w1.alloc (.cells #[.string ⟨x.wr.toArray⟩] 61)) := Old.alloc (Below.refl _ _) _
    go_wp2_with fail
    generalize w1.alloc (.cells #[.string ⟨x.wr.toArray⟩] 61) = W1 at *
    obtain ⟨BX, u1, q1', f1'⟩ := HS.out W1 a1
    refine wp_region_noPanic ?_
    go_region_with (go_at_call 56; refine (errorsNew_any _ _).mono ?_; rintro _ w2 ⟨⟨t, p, rfl⟩, b2⟩; have b12 : Below w1.heap.size w1 w2 := Old.trans a1 (((Below.refl W1.heap.size W1).drew).trans b2); obtain ⟨B2, u2, q2, f2⟩ := HS.out w2 b12)
    all_goals refine NoPanic.normal ?_
    all_goals go_wp2_with fail
    all_goals refine bodyPost_ret (ret_cell_tmp rfl rfl (B2.set_ 0 (.string sU)) Tryd.underlying61 (by kernel_rfl)) rfl ?_
    all_goals refine ⟨?_, fun h => absurd h HK.out, fun _ => ⟨sU, _, _, rfl⟩⟩
    all_goals first | exact (Old.trans b01 b12).setCell (p := ⟨w.heap.size, 0, none⟩) (Nat.le_refl _) _ | exact RowKit.Below.drew ((Old.trans b01 b12).setCell (p := ⟨w.heap.size, 0, none⟩) (Nat.le_refl _) _)

/-- What CdCast comes to. -/
def CcPost (x : CidL) (k n : Nat) (w : World) (e : Ending) (w' : World) : Prop :=
  Below w.heap.size w w' ∧ (k = n → e = .returned (.tuple #[.agg #[.int .u64 x.version, .int .u64 x.codec, .int .u64 x.code, .string ⟨x.digest.toArray⟩], .bool true])) ∧ (k ≠ n → e = .returned (.tuple #[.agg #[.int .u64 0, .int .u64 0, .int .u64 0, .string ⟨#[]⟩], .bool false]))

set_option maxRecDepth 100000 in
set_option maxHeartbeats 2000000 in
theorem cdCast_any (l : List UInt8) (x : CidL) (k : Nat) (w : World) (hl : l.length ≤ 1000000) (hr : cdRd l = some (x, k)) (hd : x.digest.length ≤ 4096)
    (e0 : Er w 2) (e1 : Er w 3) (e2 : Er w 5) (e3 : Er w 7) (eS : Sr w 4) :
    Calls Tryd.prog 24 #[.string ⟨l.toArray⟩] w (CcPost x k l.length w) := by
  have hcv := fun W => Lib.run_convert_string_bytes (P := Tryd.prog) W 9 51 5 ⟨l.toArray⟩ Tryd.underlying9 Tryd.underlying51 Tryd.underlying5
  obtain ⟨V, hV⟩ : ∃ V, w.alloc (.cells #[.int .u64 0, .int .u64 0, .int .u64 0, .string ⟨#[]⟩] 30) = V := ⟨_, rfl⟩
  have bV : Below w.heap.size w V := by rw [← hV]; exact Old.alloc (Below.refl _ _) _
  have BV : Blk V w.heap.size 30 #[.int .u64 0, .int .u64 0, .int .u64 0, .string ⟨#[]⟩] := by rw [← hV]; exact Blk.new _ _ _
  have hVs : V.heap.size = w.heap.size + 1 := by rw [← hV]; simp
  have hb := bw_below V 5 ⟨l.toArray⟩
  have hbs := bw_bs V 5 ⟨l.toArray⟩
  have hsz := bw_size V 5 ⟨l.toArray⟩
  have hgc := grownCap_ge V (⟨l.toArray⟩ : ByteArray).size 0 5
  rw [hVs] at hbs
  obtain ⟨n, hn⟩ : ∃ n, l.length = n := ⟨_, rfl⟩
  go_enter Tryd.func24, Tryd.ntmps24
  go_wp2_with fail
  clear hV hcv
  have bW := Old.trans bV hb
  have BW := BV.old hb
  have gW : w.heap.size + 1 < (Lib.bytesWorld V 5 ⟨l.toArray⟩).heap.size := by omega
  clear hVs hsz bV hb BV
  generalize Lib.bytesWorld V 5 ⟨l.toArray⟩ = W at *
  have hca := cidCast_any (w.heap.size + 1) 0 n (grownCap V n 0 5) l x k W hn.symm (by omega) (by have : (⟨l.toArray⟩ : ByteArray).size = n := hn; rw [this] at hgc; omega) hbs gW hr (e0.old bW) (e1.old bW) (e2.old bW) (e3.old bW) (eS.old bW)
  obtain ⟨ht, h1, h2, h3, h4, h5⟩ := cdRd_some hr
  have HT := Lib.hid (And.intro ht (And.intro h1 (And.intro h2 (And.intro h5 hn))))
  have HC := Lib.hid hca
  clear hca hr ht h1 h2 h3 h4 h5 hbs hn
  refine HC.out.mono ?_
  rintro e w1 ⟨b1, hy, hno⟩
  have b01 := Old.trans bW b1
  have B1 := BW.old b1
  have f0 := B1.frozen 0
  have f1 := B1.frozen 1
  have f2 := B1.frozen 2
  have f3 := B1.frozen 3
  have r0 : w1.cell? ⟨w.heap.size, 0, none⟩ = some (.int .u64 0) := B1.cell 0
  have r1 : w1.cell? ⟨w.heap.size, 1, none⟩ = some (.int .u64 0) := B1.cell 1
  have r2 : w1.cell? ⟨w.heap.size, 2, none⟩ = some (.int .u64 0) := B1.cell 2
  have r3 : w1.cell? ⟨w.heap.size, 3, none⟩ = some (.string ⟨#[]⟩) := B1.cell 3
  by_cases hk : k = n
  · obtain rfl := hy hk
    have HK := Lib.hid hk
    clear hy hno hk BW bW b1 HC gW
    go_wp2_with fail
    have b02 := Old.alloc b01 (.cells #[.string ⟨x.wr.toArray⟩] 61)
    have B2 := B1.alloc (.cells #[.string ⟨x.wr.toArray⟩] 61)
    clear f0 f1 f2 f3 r0 r1 r2 r3 B1 b01
    generalize w1.alloc (.cells #[.string ⟨x.wr.toArray⟩] 61) = W2 at *
    have hk : k ≤ 1000000 := by have := HT.out.2.1; omega
    refine (cidOut_any x x.wr W2 rfl HT.out.1 hd (by rw [← HT.out.2.2.2.1]; exact hk) (by rw [← HT.out.2.2.2.1]; exact HT.out.2.2.1) (e0.old b02) (e1.old b02) (e2.old b02) (e3.old b02)).mono ?_
    rintro e w3 ⟨rfl, b3⟩
    have b04 := Old.trans b02 b3
    have B4 := B2.old b3
    have f0 := B4.frozen 0
    have f1 := B4.frozen 1
    have f2 := B4.frozen 2
    have f3 := B4.frozen 3
    have r0 : w3.cell? ⟨w.heap.size, 0, none⟩ = some (.int .u64 0) := B4.cell 0
    have r1 : w3.cell? ⟨w.heap.size, 1, none⟩ = some (.int .u64 0) := B4.cell 1
    have r2 : w3.cell? ⟨w.heap.size, 2, none⟩ = some (.int .u64 0) := B4.cell 2
    have r3 : w3.cell? ⟨w.heap.size, 3, none⟩ = some (.string ⟨#[]⟩) := B4.cell 3
    clear B2 b3 b02
    go_wp2_with fail
    refine bodyPost_ret (ret_cell_tmp rfl rfl (B4.row [.int .u64 x.version, .int .u64 x.codec, .int .u64 x.code, .string ⟨x.digest.toArray⟩] rfl) Tryd.underlying30 (by kernel_rfl)) rfl ?_
    exact ⟨below_setCells (Nat.le_refl _) [.int .u64 x.version, .int .u64 x.codec, .int .u64 x.code, .string ⟨x.digest.toArray⟩] 0 _ b04, fun _ => rfl, fun h => absurd (HK.out.trans HT.out.2.2.2.2.symm) h⟩
  · obtain ⟨sU, t, p, rfl⟩ := hno hk
    have HK := Lib.hid hk
    clear hy hno hk BW bW b1 HC gW f0 f1 f2 f3 r0 r1 r2 r3
    have b02 := Old.alloc b01 (.cells #[.string sU] 61)
    have B2 := B1.alloc (.cells #[.string sU] 61)
    obtain ⟨W2, hW2⟩ : ∃ W2, w1.alloc (.cells #[.string sU] 61) = W2 := ⟨_, rfl⟩
    rw [hW2] at b02 B2
    have f0 := B2.frozen 0
    have f1 := B2.frozen 1
    have f2 := B2.frozen 2
    have f3 := B2.frozen 3
    have r0 : W2.cell? ⟨w.heap.size, 0, none⟩ = some (.int .u64 0) := B2.cell 0
    have r1 : W2.cell? ⟨w.heap.size, 1, none⟩ = some (.int .u64 0) := B2.cell 1
    have r2 : W2.cell? ⟨w.heap.size, 2, none⟩ = some (.int .u64 0) := B2.cell 2
    have r3 : W2.cell? ⟨w.heap.size, 3, none⟩ = some (.string ⟨#[]⟩) := B2.cell 3
    clear B1 b01
    go_wp2_with fail
    refine bodyPost_ret (ret_cell_tmp rfl rfl (B2.row [.int .u64 0, .int .u64 0, .int .u64 0, .string ⟨#[]⟩] rfl) Tryd.underlying30 (by kernel_rfl)) rfl ?_
    exact ⟨below_setCells (Nat.le_refl _) [.int .u64 0, .int .u64 0, .int .u64 0, .string ⟨#[]⟩] 0 _ b02, fun h => absurd (h.trans HT.out.2.2.2.2) HK.out, fun _ => rfl⟩

set_option maxRecDepth 100000 in
set_option maxHeartbeats 4000000 in
theorem fnCdBack_walk (v c k : Int) (d more : List UInt8) (aE aU aO aM : Addr) (w : World) (hv : 0 ≤ v ∧ v < 18446744073709551616) (hc : 0 ≤ c ∧ c < 18446744073709551616) (hk : 0 ≤ k ∧ k < 18446744073709551616) (hd : d.length ≤ 9223372036854775807) (hmo : more.length ≤ 9223372036854775807)
    (eE : Ee w 0 aE) (eU : Ee w 1 aU) (eO : Ee w 2 aO) (eM : Ee w 3 aM)
    (e2 : Er w 5) (e3 : Er w 7) (eS : Sr w 4) :
    Calls Tryd.prog 8 #[.agg #[.int .u64 v, .int .u64 c, .int .u64 k, .string ⟨d.toArray⟩], .string ⟨more.toArray⟩] w fun e w' => e = .returned (.bool true) ∧ Below w.heap.size w w' := by
  obtain ⟨v, rfl⟩ := Int.eq_ofNat_of_zero_le hv.1
  obtain ⟨c, rfl⟩ := Int.eq_ofNat_of_zero_le hc.1
  obtain ⟨k, rfl⟩ := Int.eq_ofNat_of_zero_le hk.1
  have b0 := Old.alloc (Below.refl w.heap.size w) (.cells #[.int .u64 v, .int .u64 c, .int .u64 k, .string ⟨d.toArray⟩] 30)
  have B0 := Blk.new w 30 #[.int .u64 v, .int .u64 c, .int .u64 k, .string ⟨d.toArray⟩]
  have HD := Lib.hid hd
  have HV := Lib.hid (And.intro hv (And.intro hc hk))
  clear hv hc hk
  go_enter Tryd.func8, Tryd.ntmps8
  go_wp2_with fail
  generalize w.alloc (.cells #[.int .u64 v, .int .u64 c, .int .u64 k, .string ⟨d.toArray⟩] 30) = W at *
  refine (zzFits1_any _ _ _ d W HD.out).mono ?_
  rintro e w1 ⟨rfl, b1⟩
  have b01 := Old.trans b0 b1
  have B1 := B0.old b1
  clear b0 b1 B0
  obtain ⟨Z, hZ⟩ : ∃ Z, decide (d.length ≤ 2147483647) = Z := ⟨_, rfl⟩
  rw [hZ]
  clear hZ
  have a0 : w1.cell? ⟨w.heap.size, 0, none⟩ = some (.int .u64 v) := B1.cell 0
  have a1 : w1.cell? ⟨w.heap.size, 1, none⟩ = some (.int .u64 c) := B1.cell 1
  have a2 : w1.cell? ⟨w.heap.size, 2, none⟩ = some (.int .u64 k) := B1.cell 2
  have a3 : w1.cell? ⟨w.heap.size, 3, none⟩ = some (.string ⟨d.toArray⟩) := B1.cell 3
  by_cases hm4 : more.length ≤ 4096
  · have hmz : decide ((2147483647 : Int) < (more.length : Int)) = false := by simp; omega
    have hmz2 : decide ((4096 : Int) < (more.length : Int)) = false := by simp; omega
    cases Z
    · go_wp2_with fail
      go_ret
      exact ⟨rfl, b01⟩
    go_wp2_with fail
    refine (cdGood_any v c k d w1 HD.out).mono ?_
    rintro e w2 ⟨rfl, b2⟩
    have b02 := Old.trans b01 b2
    have B2 := B1.old b2
    clear b01 b2 B1 a0 a1 a2 a3
    obtain ⟨G, hG⟩ : ∃ G, (decide (d.length ≤ 4096) && tidyB v c k d) = G := ⟨_, rfl⟩
    rw [hG]
    have HG := Lib.hid hG
    clear hG
    cases G
    · go_wp2_with fail
      go_ret
      exact ⟨rfl, b02⟩
    have hg := HG.out
    rw [Bool.and_eq_true] at hg
    have hd4 : d.length ≤ 4096 := by simpa using hg.1
    have ht : (⟨v, c, k, d⟩ : CidL).tidy := (tidyB_iff ⟨v, c, k, d⟩).1 hg.2
    have hwl := wr_len ht hd4
    have hrd := cdRd_wr ⟨v, c, k, d⟩ more ht (by simp only; omega)
    have hrd0 := cdRd_wr ⟨v, c, k, d⟩ [] ht (by simp only; omega)
    rw [List.append_nil] at hrd0
    obtain ⟨S, hS⟩ : ∃ S, (⟨v, c, k, d⟩ : CidL).wr = S := ⟨_, rfl⟩
    have hby := fun W (hb : Below w.heap.size w W) => cdBytes_any ⟨v, c, k, d⟩ W ht hd4 (eO.er.old hb) (eM.er.old hb) (e2.old hb) (e3.old hb)
    rw [hS] at hwl hrd hrd0 hby
    have hlm : (S ++ more).length ≤ 1000000 := by rw [List.length_append]; omega
    have hread := fun W (hb : Below w.heap.size w W) => cdRead_ok (S ++ more) ⟨v, c, k, d⟩ S.length W hlm hrd hd4 (eO.er.old hb) (eM.er.old hb) (e2.old hb) (e3.old hb)
    have hrdr := fun W (hb : Below w.heap.size w W) => cdReader_ok (S ++ more) ⟨v, c, k, d⟩ S.length aE aU aO aM W hlm hrd hd4 (eE.old hb) (eU.old hb) (eO.old hb) (eM.old hb) (e2.old hb) (e3.old hb)
    have hca0 := fun W (hb : Below w.heap.size w W) => cdCast_any S ⟨v, c, k, d⟩ S.length W (by omega) hrd0 hd4 (eO.er.old hb) (eM.er.old hb) (e2.old hb) (e3.old hb) (eS.old hb)
    have hca1 := fun W (hb : Below w.heap.size w W) => cdCast_any (S ++ more) ⟨v, c, k, d⟩ S.length W hlm hrd hd4 (eO.er.old hb) (eM.er.old hb) (e2.old hb) (e3.old hb) (eS.old hb)
    have hSl := hwl.1
    have HH := Lib.hid (And.intro hby (And.intro hread (And.intro hrdr (And.intro hca0 hca1))))
    have happ := ba_app
    clear hby hread hrdr hca0 hca1 hrd hrd0 hwl ht hg hS HG HV HD hlm eE eU eO eM e2 e3 eS
    have a0 : w2.cell? ⟨w.heap.size, 0, none⟩ = some (.int .u64 v) := B2.cell 0
    have a1 : w2.cell? ⟨w.heap.size, 1, none⟩ = some (.int .u64 c) := B2.cell 1
    have a2 : w2.cell? ⟨w.heap.size, 2, none⟩ = some (.int .u64 k) := B2.cell 2
    have a3 : w2.cell? ⟨w.heap.size, 3, none⟩ = some (.string ⟨d.toArray⟩) := B2.cell 3
    go_wp2_with fail
    refine (HH.out.1 w2 b02).mono ?_
    rintro e w3 ⟨rfl, b3⟩
    have b03 := Old.trans b02 b3
    have B3 := B2.old b3
    clear a0 a1 a2 a3 B2 b02 b3
    go_wp2_with fail
    refine (HH.out.2.1 w3 b03).mono ?_
    rintro e w4 ⟨rfl, b4⟩
    have b04 := Old.trans b03 b4
    have B4 := B3.old b4
    clear B3 b03 b4
    go_wp2_with fail
    have b05 := Old.alloc b04 (.cells #[.int .u64 v, .int .u64 c, .int .u64 k, .string ⟨d.toArray⟩] 30)
    have B5 := B4.alloc (.cells #[.int .u64 v, .int .u64 c, .int .u64 k, .string ⟨d.toArray⟩] 30)
    have A5 := Blk.new w4 30 #[.int .u64 v, .int .u64 c, .int .u64 k, .string ⟨d.toArray⟩]
    clear B4 b04
    generalize w4.alloc (.cells #[.int .u64 v, .int .u64 c, .int .u64 k, .string ⟨d.toArray⟩] 30) = w5 at *
    refine (HH.out.2.2.1 w5 b05).mono ?_
    rintro e w6 ⟨rfl, b6⟩
    have b06 := Old.trans b05 b6
    have B6 := B5.old b6
    have A6 := A5.old b6
    clear B5 b05 b6 A5
    go_wp2_with fail
    have b07 := Old.alloc b06 (.cells #[.int .u64 v, .int .u64 c, .int .u64 k, .string ⟨d.toArray⟩] 30)
    have B7 := B6.alloc (.cells #[.int .u64 v, .int .u64 c, .int .u64 k, .string ⟨d.toArray⟩] 30)
    have A7 := A6.alloc (.cells #[.int .u64 v, .int .u64 c, .int .u64 k, .string ⟨d.toArray⟩] 30)
    have C7 := Blk.new w6 30 #[.int .u64 v, .int .u64 c, .int .u64 k, .string ⟨d.toArray⟩]
    clear B6 A6 b06
    generalize w6.alloc (.cells #[.int .u64 v, .int .u64 c, .int .u64 k, .string ⟨d.toArray⟩] 30) = w7 at *
    refine (HH.out.2.2.2.1 w7 b07).mono ?_
    rintro e w8 ⟨b8, he8, _⟩
    obtain rfl := he8 rfl
    have b08 := Old.trans b07 b8
    have B8 := B7.old b8
    have A8 := A7.old b8
    have C8 := C7.old b8
    clear B7 A7 C7 b07 b8 he8
    go_wp2_with fail
    have b09 := Old.alloc b08 (.cells #[.int .u64 v, .int .u64 c, .int .u64 k, .string ⟨d.toArray⟩] 30)
    have B9 := B8.alloc (.cells #[.int .u64 v, .int .u64 c, .int .u64 k, .string ⟨d.toArray⟩] 30)
    have A9 := A8.alloc (.cells #[.int .u64 v, .int .u64 c, .int .u64 k, .string ⟨d.toArray⟩] 30)
    have C9 := C8.alloc (.cells #[.int .u64 v, .int .u64 c, .int .u64 k, .string ⟨d.toArray⟩] 30)
    have D9 := Blk.new w8 30 #[.int .u64 v, .int .u64 c, .int .u64 k, .string ⟨d.toArray⟩]
    clear B8 A8 C8 b08
    generalize w8.alloc (.cells #[.int .u64 v, .int .u64 c, .int .u64 k, .string ⟨d.toArray⟩] 30) = w9 at *
    refine (HH.out.2.2.2.2 w9 b09).mono ?_
    rintro e w10 ⟨b10, heq, hne⟩
    have b11 := Old.trans b09 b10
    have B11 := B9.old b10
    have A11 := A9.old b10
    have C11 := C9.old b10
    have D11 := D9.old b10
    have HS := Lib.hid (show ∀ W', Below w10.heap.size w10 W' → W'.cell? ⟨w.heap.size, 0, none⟩ = some (.int .u64 v) ∧ W'.cell? ⟨w.heap.size, 1, none⟩ = some (.int .u64 c) ∧ W'.cell? ⟨w.heap.size, 2, none⟩ = some (.int .u64 k) ∧ W'.cell? ⟨w.heap.size, 3, none⟩ = some (.string ⟨d.toArray⟩) ∧ W'.cell? ⟨w4.heap.size, 0, none⟩ = some (.int .u64 v) ∧ W'.cell? ⟨w4.heap.size, 1, none⟩ = some (.int .u64 c) ∧ W'.cell? ⟨w4.heap.size, 2, none⟩ = some (.int .u64 k) ∧ W'.cell? ⟨w4.heap.size, 3, none⟩ = some (.string ⟨d.toArray⟩) ∧ W'.cell? ⟨w6.heap.size, 0, none⟩ = some (.int .u64 v) ∧ W'.cell? ⟨w6.heap.size, 1, none⟩ = some (.int .u64 c) ∧ W'.cell? ⟨w6.heap.size, 2, none⟩ = some (.int .u64 k) ∧ W'.cell? ⟨w6.heap.size, 3, none⟩ = some (.string ⟨d.toArray⟩) ∧ W'.cell? ⟨w8.heap.size, 0, none⟩ = some (.int .u64 v) ∧ W'.cell? ⟨w8.heap.size, 1, none⟩ = some (.int .u64 c) ∧ W'.cell? ⟨w8.heap.size, 2, none⟩ = some (.int .u64 k) ∧ W'.cell? ⟨w8.heap.size, 3, none⟩ = some (.string ⟨d.toArray⟩) from fun W' hb' => ⟨(B11.old hb').cell 0, (B11.old hb').cell 1, (B11.old hb').cell 2, (B11.old hb').cell 3, (A11.old hb').cell 0, (A11.old hb').cell 1, (A11.old hb').cell 2, (A11.old hb').cell 3, (C11.old hb').cell 0, (C11.old hb').cell 1, (C11.old hb').cell 2, (C11.old hb').cell 3, (D11.old hb').cell 0, (D11.old hb').cell 1, (D11.old hb').cell 2, (D11.old hb').cell 3⟩)
    clear B9 A9 C9 D9 b09 b10 B11 A11 C11 D11 HH
    by_cases hmn : more = []
    · subst hmn
      obtain rfl := heq (by simp)
      clear heq hne
      have b12 := Old.alloc b11 (.cells #[.int .u64 v, .int .u64 c, .int .u64 k, .string ⟨d.toArray⟩] 30)
      have a12 : Below w10.heap.size w10 (w10.alloc (.cells #[.int .u64 v, .int .u64 c, .int .u64 k, .string ⟨d.toArray⟩] 30)) := Old.alloc (Below.refl _ _) _
      obtain ⟨W12, hW12⟩ : ∃ W12, w10.alloc (.cells #[.int .u64 v, .int .u64 c, .int .u64 k, .string ⟨d.toArray⟩] 30) = W12 := ⟨_, rfl⟩
      rw [hW12] at a12 b12
      obtain ⟨p0, p1, p2, p3, q0, q1, q2, q3, r0, r1, r2, r3, s0, s1, s2, s3⟩ := HS.out W12 a12
      go_wp2_with fail
      go_ret
      exact ⟨rfl, b12⟩
    · obtain rfl := hne (by intro h; apply hmn; rw [List.length_append] at h; exact List.eq_nil_of_length_eq_zero (by omega))
      have hem : more.isEmpty = false := by cases more with | nil => exact absurd rfl hmn | cons _ _ => rfl
      clear heq hne hmn
      have b12 := Old.alloc b11 (.cells #[.int .u64 0, .int .u64 0, .int .u64 0, .string ⟨#[]⟩] 30)
      have a12 : Below w10.heap.size w10 (w10.alloc (.cells #[.int .u64 0, .int .u64 0, .int .u64 0, .string ⟨#[]⟩] 30)) := Old.alloc (Below.refl _ _) _
      obtain ⟨p0, p1, p2, p3, q0, q1, q2, q3, r0, r1, r2, r3, s0, s1, s2, s3⟩ := HS.out _ a12
      go_wp2_with fail
      go_ret
      exact ⟨rfl, b12⟩
  · have hmz2 : decide ((4096 : Int) < (more.length : Int)) = true := by simp; omega
    obtain ⟨Y, hY⟩ : ∃ Y, decide ((2147483647 : Int) < (more.length : Int)) = Y := ⟨_, rfl⟩
    have HY := Lib.hid hmz2
    cases Z <;> cases Y
    · go_wp2_with fail
      go_ret
      exact ⟨rfl, b01⟩
    · go_wp2_with fail
      go_ret
      exact ⟨rfl, b01⟩
    · go_wp2_with fail
      refine (cdGood_any v c k d w1 HD.out).mono ?_
      rintro e w2 ⟨rfl, b2⟩
      obtain ⟨G, hG⟩ : ∃ G, (decide (d.length ≤ 4096) && tidyB v c k d) = G := ⟨_, rfl⟩
      rw [hG]
      clear hG
      cases G
      · go_wp2_with fail
        go_ret
        exact ⟨rfl, Old.trans b01 b2⟩
      · go_wp2_with fail
        go_ret
        exact ⟨rfl, Old.trans b01 b2⟩
    · go_wp2_with fail
      go_ret
      exact ⟨rfl, b01⟩
end Go.Proofs.YtgkhofnedhlgdaaDoor
