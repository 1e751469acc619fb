/-
  The walk of impl.SeHead. Conditions: as the contract says.
-/
import Derived.Test.YtaionnajhgjekaaDoorRh
import Derived.Test.YtaionnajhgjekaaDoorSe
namespace Go.Proofs.YtaionnajhgjekaaDoor
open Go.RowKit

theorem ret_cell_tmp3 {P : Program} {fn : Func} {p a b u : Tmp} {ty t : TypeId} {fs : Array Field} {g : Nat} {cs : Array Value} {tmps : Array Value} {w : World} (h : fn.results = #[.cell p ty, .tmp a, .tmp b, .tmp u]) (hp : tmps.getD p undef = .pointer (some ⟨g, 0, none⟩))
    (hb : Blk w g t cs) (hu : P.underlying ty = some (.struct fs)) (hi : (P.info? ty).map (·.size) = some cs.size) : (results fn tmps).run P w = .ok (.tuple #[.agg cs, tmps.getD a undef, tmps.getD b undef, tmps.getD u undef]) w := by
  have hl := run_loadVar_row (P := P) w g t ty cs (0, 0) _ hb hu rfl hi
  have hr : (results fn tmps).run P w = ((asAddr (tmps.getD p undef)).run P w).andThen fun a0 w₁ => ((loadVar ty a0).run P w₁).andThen fun v w₂ => .ok (.tuple #[v, tmps.getD a undef, tmps.getD b undef, tmps.getD u undef]) w₂ := by
    simp only [results, h]
    simp [Sem.run_bind, Result.andThen]
  rw [hr, hp]
  simp [Result.andThen, hl, asAddr]

set_option maxRecDepth 100000 in
set_option maxHeartbeats 4000000 in
theorem seHead_ok (x : CidL) (l more : List UInt8) (k v most : Nat) (ze : Bool) (aE aU aO aM aS : Addr) (w : World) (hx : x.tidy) (hd : x.digest.length ≤ 4096) (hl : l.length ≤ 1000000000) (hm : most < 9223372036854775808) (hr : uvRd l 0 0 = .ok v k) (hdl : l.drop k = x.wr ++ more) (hxv : x.wr.length ≤ v) (hfit : v ≤ most) (hv9 : v ≤ 1000000000)
    (E : Errs2 aE aU aO aM aS w) :
    Calls Tryd.prog 19 #[.string ⟨l.toArray⟩, .bool ze, .int .u64 (most : Nat)] w fun e w' => e = .returned (.tuple #[.agg #[.int .u64 (x.version : Nat), .int .u64 (x.codec : Nat), .int .u64 (x.code : Nat), .string ⟨x.digest.toArray⟩], .int .u64 (v - x.wr.length : Nat), .int .i64 (k + x.wr.length : Nat), .int .u8 0]) ∧ Below w.heap.size w w' := by
  have hwl := wr_len2 hx hd
  obtain ⟨_, uk1, uk2, _⟩ := uvRd_ok0 hr
  have hlen : l.length = k + x.wr.length + more.length := by
    have h1 : (l.drop k).length = (x.wr ++ more).length := by rw [hdl]
    simp only [List.length_drop, List.length_append] at h1
    omega
  have hq : ∃ q, k + x.wr.length = q := ⟨_, rfl⟩
  obtain ⟨q, hq⟩ := hq
  have hqs : q ≤ l.length := by omega
  rw [hq]
  obtain ⟨dv, hdv⟩ : ∃ dv, v - x.wr.length = dv := ⟨_, rfl⟩
  rw [hdv]
  have HDV := Lib.hid hdv
  clear hdv
  have hcv := fun W => Lib.run_convert_string_bytes (P := Tryd.prog) W 9 48 5 ⟨l.toArray⟩ Tryd.underlying9 Tryd.underlying48 Tryd.underlying5
  obtain ⟨V, hV⟩ : ∃ V, w.alloc (.cells #[.int .u64 0, .int .u64 0, .int .u64 0, .string ⟨#[]⟩] 38) = V := ⟨_, rfl⟩
  have bV : Below w.heap.size w V := by rw [← hV]; exact Old.alloc (Below.refl _ _) _
  have BV : Blk V w.heap.size 38 #[.int .u64 0, .int .u64 0, .int .u64 0, .string ⟨#[]⟩] := by rw [← hV]; exact Blk.new _ _ _
  have hVs : V.heap.size = w.heap.size + 1 := by rw [← hV]; simp
  have hb := bw_below V 5 ⟨l.toArray⟩
  have hbs := bw_bs V 5 ⟨l.toArray⟩
  have hsz := bw_size V 5 ⟨l.toArray⟩
  have hgc := grownCap_ge V (⟨l.toArray⟩ : ByteArray).size 0 5
  rw [hVs] at hbs
  have gE := E.e.eE.lt
  have gU := E.e.eU.lt
  have gO := E.e.eO.lt
  have gM := E.e.eM.lt
  have gS := E.e.eS.lt
  have g2 : 7 < w.heap.size := by obtain ⟨t, p, h⟩ := E.e2; exact World.block_lt_of_cell? w _ h
  have g3 : 8 < w.heap.size := by obtain ⟨t, p, h⟩ := E.e3; exact World.block_lt_of_cell? w _ h
  have HY := Lib.hid (And.intro hx (And.intro hd (And.intro hwl (And.intro hr (And.intro hdl (And.intro hxv (And.intro hfit (And.intro hq (And.intro hv9 E)))))))))
  clear hx hd hwl hr hdl hxv hfit hq hv9 E uk1 uk2 hlen
  go_enter Tryd.func19, Tryd.ntmps19
  go_wp2_with fail
  clear hV hcv
  have bW := Old.trans bV hb
  have BW := BV.old hb
  have hWs : (Lib.bytesWorld V 5 ⟨l.toArray⟩).heap.size = w.heap.size + 1 + 1 := by omega
  clear hVs hsz bV hb BV
  generalize Lib.bytesWorld V 5 ⟨l.toArray⟩ = W at *
  have hnr := newReader_any (w.heap.size + 1) 0 l.length (grownCap V (⟨l.toArray⟩ : ByteArray).size 0 5) W
  rw [hWs] at hnr
  have HNR := Lib.hid hnr
  have HW := Lib.hid hWs
  clear hnr hWs
  refine HNR.out.mono ?_
  rintro e w1 ⟨rfl, R1, b1⟩
  have b01 : Below w.heap.size w w1 := bW.trans (b1.mono (by omega))
  have BR1 := BW.below b1 (by omega)
  have hc1 : Bs w1 (w.heap.size + 1) 0 l := hbs.below b1 (by omega)
  have z1 := R1.lt
  have E1 := HY.out.2.2.2.2.2.2.2.2.2.old b01
  have hrn := readNodeHeader_ok (w.heap.size + 1 + 1) (w.heap.size + 1) 0 l.length _ k v most ze x l more aE aU aO aM aS w1 R1 hc1 rfl hgc hl (by omega) (by omega) hm HY.out.2.2.2.1 HY.out.2.2.2.2.1 HY.out.1 HY.out.2.1 HY.out.2.2.1.2 HY.out.2.2.1.1 HY.out.2.2.2.2.2.1 HY.out.2.2.2.2.2.2.1 HY.out.2.2.2.2.2.2.2.2.1
    E1.e.eE E1.e.eU E1.e.eO E1.e.eM E1.e.eS E1.e2 E1.e3 (by omega) (by omega) (by omega) (by omega) (by omega) (by omega) (by omega)
  have HC := Lib.hid hrn
  clear hrn HNR BW hbs bW R1 hc1 b1 hgc E1
  go_wp2_with fail
  refine HC.out.mono ?_
  rintro e w2 ⟨k2, rfl, R2⟩
  have b02 := below_kp b01 k2 (by omega) (by intro i hi; simp at hi; omega)
  have B2 := BR1.kp k2 (by simp; omega)
  clear HC k2 b01 BR1
  have b03 := Old.alloc b02 (.cells #[.string ⟨x.wr.toArray⟩] 72)
  have B3 := B2.alloc (.cells #[.string ⟨x.wr.toArray⟩] 72)
  have C3 := Blk.new w2 72 #[.string ⟨x.wr.toArray⟩]
  have R3 : Rdr (w2.alloc (.cells #[.string ⟨x.wr.toArray⟩] 72)) (w.heap.size + 1 + 1) (w.heap.size + 1) 0 l.length (grownCap V l.length 0 5) q := by rw [← HY.out.2.2.2.2.2.2.2.1]; obtain ⟨z, R2⟩ := R2; exact ⟨z, R2.alloc _⟩
  clear b02 B2 R2
  obtain ⟨W3, hW3⟩ : ∃ W3, w2.alloc (.cells #[.string ⟨x.wr.toArray⟩] 72) = W3 := ⟨_, rfl⟩
  rw [hW3] at b03 B3 C3 R3
  have q3 : W3.cell? ⟨w2.heap.size, 0, none⟩ = some (.string ⟨x.wr.toArray⟩) := C3.cell 0
  have E3 := HY.out.2.2.2.2.2.2.2.2.2.old b03
  have hco := cidOut_any x x.wr W3 rfl HY.out.1 HY.out.2.1 (by have := HY.out.2.2.1.1; omega) HY.out.2.2.1.2 E3.e.eO.er E3.e.eM.er E3.e2 E3.e3
  have HO := Lib.hid hco
  rw [HDV.out]
  clear hco C3 E3
  go_wp2_with fail
  refine HO.out.mono ?_
  rintro e w4 ⟨rfl, b4⟩
  have b04 := Old.trans b03 b4
  have B4 := B3.old b4
  have R4 := R3.old b4
  have HL := Lib.hid (rdLen_any (w.heap.size + 1 + 1) (w.heap.size + 1) 0 l.length (grownCap V l.length 0 5) q w4 R4 hqs (by omega))
  clear HO b03 B3 R3 b4 R4 q3 hW3
  go_wp2_with fail
  refine HL.out.mono ?_
  rintro e w5 ⟨rfl, b5⟩
  have b05 := Old.trans b04 b5
  have B5 := B4.old b5
  have hwq : IntKind.i64.wrap ((l.length : Int) - ((l.length - q : Nat) : Int)) = (q : Int) := by rw [IntKind.wrap_i64]; omega
  have f0 := B5.frozen 0
  have f1 := B5.frozen 1
  have f2 := B5.frozen 2
  have f3 := B5.frozen 3
  have r0 : w5.cell? ⟨w.heap.size, 0, none⟩ = some (.int .u64 0) := B5.cell 0
  have r1 : w5.cell? ⟨w.heap.size, 1, none⟩ = some (.int .u64 0) := B5.cell 1
  have r2 : w5.cell? ⟨w.heap.size, 2, none⟩ = some (.int .u64 0) := B5.cell 2
  have r3 : w5.cell? ⟨w.heap.size, 3, none⟩ = some (.string ⟨#[]⟩) := B5.cell 3
  clear B4 b04 b5 HL
  go_wp2_with fail
  refine bodyPost_ret (ret_cell_tmp3 rfl rfl (B5.row [.int .u64 x.version, .int .u64 x.codec, .int .u64 x.code, .string ⟨x.digest.toArray⟩] rfl) Tryd.underlying38 (by kernel_rfl)) rfl ?_
  exact ⟨rfl, below_setCells (Nat.le_refl _) [.int .u64 x.version, .int .u64 x.codec, .int .u64 x.code, .string ⟨x.digest.toArray⟩] 0 _ b05⟩
end Go.Proofs.YtaionnajhgjekaaDoor
