/-
  The walks of impl.CdReader (of bytes that begin with no identifier) and laws.FnCdReader. Conditions: as each contract says.
-/
import Derived.Test.YtgkhofnedhlgdaaDoorCfe
import Derived.Test.YtgkhofnedhlgdaaDoorCfg
import Derived.Stop.Asserts
namespace Go.Proofs.YtgkhofnedhlgdaaDoor
open Go.RowKit

theorem cidFromReader_bad (r g o n c : Nat) (l : List UInt8) (aE aU aO aM : Addr) (w : World) (h : Rdr w r g o n c 0) (hc : Bs w g o l) (hn : n = l.length) (hnc : n ≤ c) (hl : l.length ≤ 1000000) (hg : g ≠ r) (hglt : g < w.heap.size) (hr : cdRd l = none) (eS : Sr w 4) (rS : r ≠ 4)
    (xE : Eh w aE) (xU : Eh w aU) (xO : Eh w aO) (xM : Eh w aM) (yU : aU ≠ aE) (yO : aO ≠ aE) (yM : aM ≠ aE) (zE : aE.block ≠ r) (zU : aU.block ≠ r) (zO : aO.block ≠ r) (zM : aM.block ≠ r)
    (eE : Ee w 0 aE) (eU : Ee w 1 aU) (eO : Ee w 2 aO) (eM : Ee w 3 aM) (e2 : Er w 5) (e3 : Er w 7)
    (rE : r ≠ 0) (rU : r ≠ 1) (rO : r ≠ 2) (rM : r ≠ 3) (r2 : r ≠ 5) (r3 : r ≠ 7) :
    Calls Tryd.prog 39 #[.iface 49 (.pointer (some ⟨r, 0, none⟩))] w fun e w' => (∃ (q : Int) (s : ByteArray) (v : Value), e = .returned (.tuple #[.int .i64 q, .agg #[.string s], v]) ∧ CfeT l aE v) ∧ Kp [r] w w' := by
  by_cases hx : ∀ codec m code m3 size m4, uvRd l 0 0 = .ok 1 1 → uvRd (l.drop 1) 0 0 = .ok codec m → uvRd (l.drop (1 + m)) 0 0 = .ok code m3 → uvRd (l.drop (1 + m + m3)) 0 0 = .ok size m4 → False
  · exact cidFromReader_bad0 r g o n c l aE aU aO aM w h hc hn hnc hl hg hglt hr hx eS rS xE xU xO xM yU yO yM zE zU zO zM eE eU eO eM e2 e3 rE rU rO rM r2 r3
  · simp only [Classical.not_forall] at hx
    obtain ⟨codec, m, code, m3, size, m4, h1, h2, h3, h4, _⟩ := hx
    exact cidFromReader_bad4 r g o n c l aE aU aO aM w h hc hn hnc hl hg hglt hr codec m code m3 size m4 h1 h2 h3 h4 eS rS xE xU xO xM yU yO yM zE zU zO zM eE eU eO eM e2 e3 rE rU rO rM r2 r3

theorem kind_wrapped (u : Value) (aE : Addr) (w : World) (eE : Ee w 0 aE) : Calls Tryd.prog 28 #[.iface 95 u] w fun e w' => e = .returned (.int .u8 2) ∧ w = w' := by
  unfold Ee at eE
  have heq := fun W => run_eql_iface_types (P := Tryd.prog) 95 128 u (.pointer (some aE)) Tryd.underlying53 (by decide) W
  go_enter Tryd.func28, Tryd.ntmps28
  go_wp2_with fail
  go_ret
  exact ⟨rfl, rfl⟩

/-- What CdReader comes to of bytes that begin with no identifier. -/
def CrbPost (l : List UInt8) (w : World) (e : Ending) (w' : World) : Prop :=
  (∃ (c : Value) (q : Int), e = .returned (.tuple #[c, .int .i64 q, .int .u8 (if l = [] then 1 else 2)]) ∧ ∃ a b d s, c = .agg #[.int .u64 a, .int .u64 b, .int .u64 d, .string s]) ∧ Below w.heap.size w w'
theorem CrbPost.mk' {l : List UInt8} {w w' : World} {t : Int} (q : Int) (ht : (if l = [] then 1 else 2) = t) (h : Below w.heap.size w w') :
    CrbPost l w (.returned (.tuple #[.agg #[.int .u64 0, .int .u64 0, .int .u64 0, .string ⟨#[]⟩], .int .i64 q, .int .u8 t])) w' := by
  subst ht
  exact ⟨⟨_, q, rfl, 0, 0, 0, ⟨#[]⟩, rfl⟩, h⟩

set_option maxRecDepth 100000 in
set_option maxHeartbeats 2000000 in
theorem cdReader_bad (l : List UInt8) (aE aU aO aM : Addr) (w : World) (hl : l.length ≤ 1000000) (hr : cdRd l = none)
    (eE : Ee w 0 aE) (eU : Ee w 1 aU) (eO : Ee w 2 aO) (eM : Ee w 3 aM) (e2 : Er w 5) (e3 : Er w 7) (eS : Sr w 4)
    (xE : Eh w aE) (xU : Eh w aU) (xO : Eh w aO) (xM : Eh w aM) (yU : aU ≠ aE) (yO : aO ≠ aE) (yM : aM ≠ aE) :
    Calls Tryd.prog 21 #[.string ⟨l.toArray⟩] w (CrbPost l w) := by
  have hcv := fun W => Lib.run_convert_string_bytes (P := Tryd.prog) W 9 51 5 ⟨l.toArray⟩ Tryd.underlying9 Tryd.underlying51 Tryd.underlying5
  obtain ⟨V, hV⟩ : ∃ V, w.alloc (.cells #[.int .u64 0, .int .u64 0, .int .u64 0, .string ⟨#[]⟩] 30) = V := ⟨_, rfl⟩
  have bV : Below w.heap.size w V := by rw [← hV]; exact Old.alloc (Below.refl _ _) _
  have BV : Blk V w.heap.size 30 #[.int .u64 0, .int .u64 0, .int .u64 0, .string ⟨#[]⟩] := by rw [← hV]; exact Blk.new _ _ _
  have hVs : V.heap.size = w.heap.size + 1 := by rw [← hV]; simp
  have hb := bw_below V 5 ⟨l.toArray⟩
  have hbs := bw_bs V 5 ⟨l.toArray⟩
  have hsz := bw_size V 5 ⟨l.toArray⟩
  have hgc := grownCap_ge V (⟨l.toArray⟩ : ByteArray).size 0 5
  rw [hVs] at hbs
  have gE := eE.lt
  have gU := eU.lt
  have gO := eO.lt
  have gM := eM.lt
  have g2 : 5 < w.heap.size := by obtain ⟨t, p, h⟩ := e2; exact World.block_lt_of_cell? w _ h
  have g3 : 7 < w.heap.size := by obtain ⟨t, p, h⟩ := e3; exact World.block_lt_of_cell? w _ h
  have gS : 4 < w.heap.size := by obtain ⟨s, h⟩ := eS; exact World.block_lt_of_cell? w _ h
  have zE := xE.lt
  have zU := xU.lt
  have zO := xO.lt
  have zM := xM.lt
  have HX := Lib.hid (And.intro xE (And.intro xU (And.intro xO (And.intro xM (And.intro yU (And.intro yO yM))))))
  clear xE xU xO xM yU yO yM
  go_enter Tryd.func21, Tryd.ntmps21
  go_wp2_with fail
  clear hV hcv
  have bW := Old.trans bV hb
  have BW := BV.old hb
  have hWs : (Lib.bytesWorld V 5 ⟨l.toArray⟩).heap.size = w.heap.size + 1 + 1 := by omega
  clear hVs hsz bV hb BV
  generalize Lib.bytesWorld V 5 ⟨l.toArray⟩ = W at *
  have hnr := newReader_any (w.heap.size + 1) 0 l.length (grownCap V (⟨l.toArray⟩ : ByteArray).size 0 5) W
  rw [hWs] at hnr
  have HNR := Lib.hid hnr
  have HW := Lib.hid hWs
  clear hnr hWs
  refine HNR.out.mono ?_
  rintro e w1 ⟨rfl, R1, b1⟩
  have b01 : Below w.heap.size w w1 := bW.trans (b1.mono (by omega))
  have BR1 := BW.below b1 (by omega)
  have hc1 : Bs w1 (w.heap.size + 1) 0 l := hbs.below b1 (by omega)
  have z1 := R1.lt
  have hcf := cidFromReader_bad (w.heap.size + 1 + 1) (w.heap.size + 1) 0 l.length _ l aE aU aO aM w1 R1 hc1 rfl hgc hl (by omega) (by omega) hr (eS.old b01) (by omega)
    (HX.out.1.old b01) (HX.out.2.1.old b01) (HX.out.2.2.1.old b01) (HX.out.2.2.2.1.old b01) HX.out.2.2.2.2.1 HX.out.2.2.2.2.2.1 HX.out.2.2.2.2.2.2 (by omega) (by omega) (by omega) (by omega)
    (eE.old b01) (eU.old b01) (eO.old b01) (eM.old b01) (e2.old b01) (e3.old b01) (by omega) (by omega) (by omega) (by omega) (by omega) (by omega)
  have HC := Lib.hid hcf
  clear hcf HNR BW hbs bW R1 hc1 b1 hgc hr zE zU zO zM
  go_wp2_with fail
  refine HC.out.mono ?_
  rintro e w2 ⟨⟨q, s, v, rfl, hv⟩, k2⟩
  have b02 := below_kp b01 k2 (by omega) (by intro i hi; simp at hi; omega)
  have B2 := BR1.kp k2 (by simp; omega)
  have hE2 := eE.old b02
  have b03 := Old.alloc b02 (.cells #[.string s] 61)
  have B3 := B2.alloc (.cells #[.string s] 61)
  have hE3 := hE2.old (Old.alloc (Below.refl w2.heap.size w2) (.cells #[.string s] 61))
  clear HC k2 b01 BR1 B2 b02 hE2
  unfold CfeT at hv
  by_cases h0 : l = []
  · rw [if_pos h0] at hv
    have H0 := Lib.hid h0
    clear h0
    subst hv
    go_wp2_with fail
    generalize w2.alloc (.cells #[.string s] 61) = W2 at *
    have f0 := B3.frozen 0
    have f1 := B3.frozen 1
    have f2 := B3.frozen 2
    have f3 := B3.frozen 3
    have r0 : W2.cell? ⟨w.heap.size, 0, none⟩ = some (.int .u64 0) := B3.cell 0
    have r1 : W2.cell? ⟨w.heap.size, 1, none⟩ = some (.int .u64 0) := B3.cell 1
    have r2 : W2.cell? ⟨w.heap.size, 2, none⟩ = some (.int .u64 0) := B3.cell 2
    have r3 : W2.cell? ⟨w.heap.size, 3, none⟩ = some (.string ⟨#[]⟩) := B3.cell 3
    refine (kind_eof aE W2 hE3).mono ?_
    rintro e w3 ⟨rfl, rfl⟩
    go_wp2_with fail
    refine bodyPost_ret (ret_cell_tmp_tmp rfl rfl (B3.row [.int .u64 0, .int .u64 0, .int .u64 0, .string ⟨#[]⟩] rfl) Tryd.underlying30 (by kernel_rfl)) rfl ?_
    exact CrbPost.mk' q (if_pos H0.out) (below_setCells (Nat.le_refl _) [.int .u64 0, .int .u64 0, .int .u64 0, .string ⟨#[]⟩] 0 _ b03)
  · rw [if_neg h0] at hv
    have H0 := Lib.hid h0
    clear h0
    obtain ⟨u, rfl⟩ := hv
    go_wp2_with fail
    generalize w2.alloc (.cells #[.string s] 61) = W2 at *
    have f0 := B3.frozen 0
    have f1 := B3.frozen 1
    have f2 := B3.frozen 2
    have f3 := B3.frozen 3
    have r0 : W2.cell? ⟨w.heap.size, 0, none⟩ = some (.int .u64 0) := B3.cell 0
    have r1 : W2.cell? ⟨w.heap.size, 1, none⟩ = some (.int .u64 0) := B3.cell 1
    have r2 : W2.cell? ⟨w.heap.size, 2, none⟩ = some (.int .u64 0) := B3.cell 2
    have r3 : W2.cell? ⟨w.heap.size, 3, none⟩ = some (.string ⟨#[]⟩) := B3.cell 3
    refine (kind_wrapped u aE W2 hE3).mono ?_
    rintro e w3 ⟨rfl, rfl⟩
    go_wp2_with fail
    refine bodyPost_ret (ret_cell_tmp_tmp rfl rfl (B3.row [.int .u64 0, .int .u64 0, .int .u64 0, .string ⟨#[]⟩] rfl) Tryd.underlying30 (by kernel_rfl)) rfl ?_
    exact CrbPost.mk' q (if_neg H0.out) (below_setCells (Nat.le_refl _) [.int .u64 0, .int .u64 0, .int .u64 0, .string ⟨#[]⟩] 0 _ b03)
end Go.Proofs.YtgkhofnedhlgdaaDoor
