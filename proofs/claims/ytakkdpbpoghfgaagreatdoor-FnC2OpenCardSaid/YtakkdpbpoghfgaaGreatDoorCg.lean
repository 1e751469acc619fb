/-
  carv1.zzDecodeHeader of the pragma's ten bytes: a header of version 2 without roots. Conditions: as the contract says.
-/
import Derived.Test.YtakkdpbpoghfgaaGreatDoorCf0
namespace Go.Proofs.YtakkdpbpoghfgaaGreatDoor
open Go.RowKit

/-- The cells of a CarHeader without roots. -/
def chC (v : Int) : Array Value := #[.slice none 0 0, .int .u64 v]

theorem slNew_B {w : World} {s q : Nat} (h : Blk w s 156 (slNew q)) : SlB w s q 0 := ⟨List.replicate 32 (.int .u8 0), by simp, h⟩

/-- The zero token's cells. -/
def zT : List Value := [.int .u8 0, .int .i64 0, .string ⟨#[]⟩, .slice none 0 0, .bool false, .int .i64 0, .int .u64 0, .float .f64 0, .bool false, .int .i64 0]

theorem zT_size : (Tryz.prog.info? 118).map (·.size) = some zT.toArray.size := by kernel_rfl
theorem zT_one : zT.toArray.all (·.oneCell') = true := by kernel_rfl
theorem row_zero {w : World} {tk : Nat} {cs : Array Value} (h : Blk w tk 118 cs) : Blk (w.setRow tk zT.toArray) tk 118 (tokC 0 0 [] 0 (.float .f64 0)) := setRow_heap w tk _ _ _ _ h
theorem kp_row (w : World) (tk : Nat) (cs : Array Value) : Kp [tk] w (w.setRow tk cs) := ⟨rfl, rfl, rfl, by simp, fun k _ hn => setRow_other w tk k cs (by simpa using hn)⟩

/-- Behind the map's opening. -/
structure StA (tk d s q r g sk lf ch : Nat) (aE : Addr) (lr : List Value) (w wr : World) : Prop where
  T : Blk wr tk 118 (tokC 123 1 [] 0 (.float .f64 0))
  D : Blk wr d 136 (decC s sk lf 1 5 1)
  L : Blk wr lf 3 (.int .i64 1 :: lr).toArray
  S : Str wr s q r g aE 1 1
  H : Blk wr ch 91 (chC 0)
  b : Below w.heap.size w wr
/-- Behind the value. -/
structure StB (tk d s sk lf ch : Nat) (lr : List Value) (w wr : World) : Prop where
  T : Blk wr tk 118 (tokC 117 0 [] 2 (.float .f64 0))
  D : Blk wr d 136 (decC s sk lf 1 5 1)
  L : Blk wr lf 3 (.int .i64 0 :: lr).toArray
  H : Blk wr ch 91 (chC 2)
  b : Kp [ch] w wr

set_option maxRecDepth 100000 in
set_option maxHeartbeats 8000000 in
theorem decHead (g ch : Nat) (aE : Addr) (w : World) (hC : Bs w g 0 pt) (hch : Blk w ch 91 (chC 0)) (hE : Ee w 4 aE) (hgl : g < w.heap.size) (hEc : 4 ≠ ch) (hgc : g ≠ ch) :
    Calls Tryz.prog 47 #[.slice (some ⟨g, 0, none⟩) 10 10, .pointer (some ⟨ch, 0, none⟩)] w fun e w' => e = .returned .nilIface ∧ Blk w' ch 91 (chC 2) ∧ Kp [ch] w w' := by
  have hcl := hch.lt
  have hEl := hE.lt
  have HI := Lib.hid (And.intro hC (And.intro hch (And.intro hE (And.intro hEc hgc))))
  clear hC hch hE hEc hgc
  go_enter Tryz.func47, Tryz.ntmps47
  go_wp2_with fail
  refine (newReader_any g 0 10 10 w).mono ?_
  rintro e w1 ⟨rfl, R1, b1⟩
  go_wp2_with fail
  obtain ⟨r, hr⟩ : ∃ r, w.heap.size = r := ⟨_, rfl⟩
  rw [hr] at R1
  simp only [hr]
  refine (newDec r w1).mono ?_
  rintro e w2 ⟨d, s, q, sk, lf, rfl, DN, b2⟩
  go_wp2_with fail
  obtain ⟨tk, htk⟩ : ∃ tk, w2.heap.size = tk := ⟨_, rfl⟩
  have T3 : Blk (w2.alloc (.cells #[.int .u8 0, .int .i64 0, .string ⟨#[]⟩, .slice none 0 0, .bool false, .int .i64 0, .int .u64 0, .float .f64 0, .bool false, .int .i64 0] 118)) tk 118 (tokC 0 0 [] 0 (.float .f64 0)) := by rw [← htk]; exact Blk.new _ _ _
  have b3 := Old.alloc (Below.refl w2.heap.size w2) (.cells #[.int .u8 0, .int .i64 0, .string ⟨#[]⟩, .slice none 0 0, .bool false, .int .i64 0, .int .u64 0, .float .f64 0, .bool false, .int .i64 0] 118)
  simp only [htk]
  have rl := R1.lt
  have l1 := b2.size
  have m1 := DN.D.lt
  have m2 := DN.S.lt
  have m3 := DN.Q.lt
  have m4 := DN.K.lt
  have m5 := DN.L.lt
  have hD : Dis d s q r g sk lf tk := by
    obtain ⟨B1, B2, B3, B4, B5⟩ := DN.b
    obtain ⟨n1, n2, n3, n4, n5, n6, n7, n8, n9, n10⟩ := Lib.hid DN.n |>.out
    have N := Lib.hid (And.intro n1 (And.intro n2 (And.intro n3 (And.intro n4 (And.intro n5 (And.intro n6 (And.intro n7 (And.intro n8 (And.intro n9 n10)))))))))
    clear n1 n2 n3 n4 n5 n6 n7 n8 n9 n10
    obtain ⟨n1, n2, n3, n4, n5, n6, n7, n8, n9, n10⟩ := N.out
    exact ⟨⟨n1, n2, (by clear n1 n2 n3 n4 n5 n6 n7 n8 n9 n10; omega), (by clear n1 n2 n3 n4 n5 n6 n7 n8 n9 n10; omega), n3, n4, (by clear n1 n2 n3 n4 n5 n6 n7 n8 n9 n10; omega)⟩,
      ⟨n6, n7, (by clear n1 n2 n3 n4 n5 n6 n7 n8 n9 n10; omega), (by clear n1 n2 n3 n4 n5 n6 n7 n8 n9 n10; omega), n8, (by clear n1 n2 n3 n4 n5 n6 n7 n8 n9 n10; omega)⟩,
      ⟨n9, n10, (by clear n1 n2 n3 n4 n5 n6 n7 n8 n9 n10; omega), (by clear n1 n2 n3 n4 n5 n6 n7 n8 n9 n10; omega), (by clear n1 n2 n3 n4 n5 n6 n7 n8 n9 n10; omega)⟩,
      (by clear n1 n2 n3 n4 n5 n6 n7 n8 n9 n10; omega), (by clear n1 n2 n3 n4 n5 n6 n7 n8 n9 n10; omega)⟩
  have ub : (r ≤ d ∧ r ≤ s ∧ r ≤ q ∧ r ≤ sk ∧ r ≤ lf ∧ r ≤ tk) := by have := DN.b; omega
  have b13 : Below w.heap.size w (w2.alloc (.cells #[.int .u8 0, .int .i64 0, .string ⟨#[]⟩, .slice none 0 0, .bool false, .int .i64 0, .int .u64 0, .float .f64 0, .bool false, .int .i64 0] 118)) := Old.trans (Old.trans b1 b2) b3
  have Str3 : Str (w2.alloc (.cells #[.int .u8 0, .int .i64 0, .string ⟨#[]⟩, .slice none 0 0, .bool false, .int .i64 0, .int .u64 0, .float .f64 0, .bool false, .int .i64 0] 118)) s q r g aE 0 0 := by
    have hb := DN.b
    refine ⟨slNew_B (DN.S.alloc _), ⟨0, 0, 0, rfl, DN.Q.alloc _⟩, (R1.old b2).old b3, HI.out.1.old b13, HI.out.2.2.1.old b13, ⟨by omega, by omega, by omega, by omega, DN.n.2.2.2.2.1, by omega⟩, ⟨by omega, by omega, by omega⟩⟩
  have D3 := DN.D.alloc (.cells #[.int .u8 0, .int .i64 0, .string ⟨#[]⟩, .slice none 0 0, .bool false, .int .i64 0, .int .u64 0, .float .f64 0, .bool false, .int .i64 0] 118)
  have K3 := DN.K.alloc (.cells #[.int .u8 0, .int .i64 0, .string ⟨#[]⟩, .slice none 0 0, .bool false, .int .i64 0, .int .u64 0, .float .f64 0, .bool false, .int .i64 0] 118)
  have L3 := DN.L.alloc (.cells #[.int .u8 0, .int .i64 0, .string ⟨#[]⟩, .slice none 0 0, .bool false, .int .i64 0, .int .u64 0, .float .f64 0, .bool false, .int .i64 0] 118)
  have H3 := HI.out.2.1.old b13
  have hsv := stVal d s q r g sk lf tk 0 aE 0 0 0 [] (.float .f64 0) _ _ (w2.alloc (.cells #[.int .u8 0, .int .i64 0, .string ⟨#[]⟩, .slice none 0 0, .bool false, .int .i64 0, .int .u64 0, .float .f64 0, .bool false, .int .i64 0] 118)) hD D3 K3 (by simp) L3 (by simp) T3 Str3 (by omega)
  refine (stepVal d s sk lf tk 0 0 _ _ D3 hsv).mono ?_
  rintro e w4 ⟨rfl, T4, D4, L4, S4, k4⟩
  have kk4 : Below w.heap.size w w4 := below_kp b13 k4 b13.size (by intro i hi; simp at hi; omega)
  have H4 := H3.kp k4 (by simp; omega)
  have A4 : StA tk d s q r g sk lf ch aE _ w w4 := ⟨T4, D4, L4, S4, H4, kk4⟩
  have q0 : w4.cell? ⟨tk, 0, none⟩ = some (.int .u8 123) := T4.cell 0
  have HA := Lib.hid A4
  have hrle : w.heap.size ≤ r := by omega
  have hcr : ch < r := by omega
  have HD := Lib.hid hD
  clear A4 hD T3 b3 m1 m2 m3 m4 m5 b13 Str3 D3 K3 L3 H3 hsv T4 D4 L4 S4 k4 kk4 H4 R1 b1 DN b2 hr htk l1 rl
  go_wp2_with fail
  clear q0
  go_loopw [7, 8] (fun x e wr => x = .bool false ∧ e = .nilIface ∧ (StA tk d s q r g sk lf ch aE ((List.replicate 10 (Value.int .i64 0)).drop 1) w wr ∨ StB tk d s sk lf ch ((List.replicate 10 (Value.int .i64 0)).drop 1) w wr)) (fun _ _ wr => (intOf ((wr.cell? ⟨lf, 0, none⟩).getD undef)).toNat)
  case atStart => exact ⟨rfl, rfl, .inl HA.out⟩
  case round =>
    clear HA
    obtain ⟨rfl, rfl, A | B⟩ := hrel
    · obtain ⟨T, D, L, S, H, b⟩ := A
      have hgrow : wr.heap[tk]? = some (.cells (tokC 123 1 [] 0 (.float .f64 0)) 118 (0, 0)) := T
      have q0 : wr.cell? ⟨tk, 0, none⟩ = some (.int .u8 123) := T.cell 0
      have cL : wr.cell? ⟨lf, 0, none⟩ = some (.int .i64 1) := L.cell 0
      have HX := Lib.hid (And.intro T (And.intro D (And.intro L (And.intro S (And.intro H (And.intro b cL))))))
      clear T D L S H b cL
      go_wp2_with (refine wpList_store_row rfl 118 _ _ rfl tk zT.toArray rfl rfl 118 _ hgrow zT_size rfl zT_one ?_)
      clear hgrow q0
      obtain ⟨T, D, L, S, H, b, cL⟩ := HX.out
      have ZX : Blk (wr.setRow tk zT.toArray) tk 118 (tokC 0 0 [] 0 (.float .f64 0)) := row_zero T
      have kzX : Kp [tk] wr (wr.setRow tk zT.toArray) := kp_row wr tk _
      generalize wr.setRow tk zT.toArray = X at *
      have hx := HD.out
      have DX := D.kp kzX (by simp [hx.dd.2.2.2.2.2.2])
      have LX := L.kp kzX (by simp [hx.ll.2.2.2.2])
      have SX := S.kp kzX (by simp [hx.tt.1.symm, hx.tt.2.1.symm, hx.tt.2.2.1.symm, hx.tt.2.2.2.symm, hx.ee.2.2.2])
      have HcX := H.kp kzX (by simp; omega)
      have bX : Below w.heap.size w X := below_kp b kzX b.size (by simp; omega)
      refine (stepKey d s sk lf tk 1 1 X _ DX (stKey d s q r g sk lf tk 1 aE 0 0 0 [] (.float .f64 0) _ X hx DX LX ZX SX (by omega))).mono ?_
      rintro e y ⟨rfl, T5, D5, L5, S5, k5⟩
      have H5 := HcX.kp k5 (by simp; omega)
      have b5 : Below w.heap.size w y := below_kp bX k5 bX.size (by intro i hi; simp at hi; omega)
      have hgrow : y.heap[tk]? = some (.cells (tokC 115 0 verB 0 (.float .f64 0)) 118 (0, 0)) := T5
      have q0 : y.cell? ⟨tk, 0, none⟩ = some (.int .u8 115) := T5.cell 0
      have q2 : y.cell? ⟨tk, 2, none⟩ = some (.string ⟨#[118, 101, 114, 115, 105, 111, 110]⟩) := T5.cell 2
      have HY := Lib.hid (And.intro T5 (And.intro D5 (And.intro L5 (And.intro S5 (And.intro H5 b5)))))
      clear T D L S H b T5 D5 L5 S5 H5 b5 ZX kzX DX LX SX HcX bX k5 hx
      go_wp2_with (refine wpList_store_row rfl 118 _ _ rfl tk zT.toArray rfl rfl 118 _ hgrow zT_size rfl zT_one ?_)
      clear hgrow q0 q2
      obtain ⟨T, D, L, S, H, b⟩ := HY.out
      have ZY : Blk (y.setRow tk zT.toArray) tk 118 (tokC 0 0 [] 0 (.float .f64 0)) := row_zero T
      have kzY : Kp [tk] y (y.setRow tk zT.toArray) := kp_row y tk _
      generalize y.setRow tk zT.toArray = Y at *
      have hx := HD.out
      have DY := D.kp kzY (by simp [hx.dd.2.2.2.2.2.2])
      have LY := L.kp kzY (by simp [hx.ll.2.2.2.2])
      have SY := S.kp kzY (by simp [hx.tt.1.symm, hx.tt.2.1.symm, hx.tt.2.2.1.symm, hx.tt.2.2.2.symm, hx.ee.2.2.2])
      have HcY := H.kp kzY (by simp; omega)
      have bY : Below w.heap.size w Y := below_kp b kzY b.size (by simp; omega)
      refine (stepMap d s sk lf tk 1 1 Y _ DY (stMap d s q r g sk lf tk (1 + 8) aE 0 0 0 [] (.float .f64 0) Y hx DY ZY SY (by omega))).mono ?_
      rintro e z ⟨rfl, T6, D6, k6⟩
      have L6 := LY.kp k6 (by simp [hx.ll.1, hx.ll.2.1, hx.ll.2.2.1, hx.ll.2.2.2.2, hx.dd.2.2.2.2.2.1.symm])
      have H6 := HcY.kp k6 (by simp; omega)
      have b6 : Below w.heap.size w z := below_kp bY k6 bY.size (by intro i hi; simp at hi; omega)
      have q0 : z.cell? ⟨tk, 0, none⟩ = some (.int .u8 117) := T6.cell 0
      have q6 : z.cell? ⟨tk, 6, none⟩ = some (.int .u64 2) := T6.cell 6
      have p1 : z.cell? ⟨ch, 1, none⟩ = some (.int .u64 0) := H6.cell 1
      have fp := H6.frozen 1
      have HZ := Lib.hid (And.intro T6 (And.intro D6 (And.intro L6 (And.intro H6 b6))))
      clear T D L S H b T6 D6 L6 H6 b6 ZY kzY DY LY SY HcY bY k6 hx
      go_wp2_with fail
      obtain ⟨T, D, L, H, b⟩ := HZ.out
      have hne : ∀ x, r ≤ x → x ≠ ch := by intro x hx; omega
      have LZ := L.far (p := ⟨ch, 1, none⟩) (hne lf ub.2.2.2.2.1) (.int .u64 2)
      refine ⟨⟨rfl, rfl, .inr ⟨T.far (p := ⟨ch, 1, none⟩) (hne tk ub.2.2.2.2.2) _, D.far (p := ⟨ch, 1, none⟩) (hne d ub.1) _, LZ, H.set_ 1 _, (Kp.of_below b [ch]).setCell (p := ⟨ch, 1, none⟩) (.inl (by simp)) _⟩⟩, ?_⟩
      have e1 := HX.out.2.2.2.2.2.2
      have e2 : (z.setCell ⟨ch, 1, none⟩ (.int .u64 2)).cell? ⟨lf, 0, none⟩ = some (.int .i64 0) := LZ.cell 0
      rw [e1, e2]
      simp [intOf]
    · obtain ⟨T, D, L, H, b⟩ := B
      have hgrow : wr.heap[tk]? = some (.cells (tokC 117 0 [] 2 (.float .f64 0)) 118 (0, 0)) := T
      have q0 : wr.cell? ⟨tk, 0, none⟩ = some (.int .u8 117) := T.cell 0
      have HX := Lib.hid (And.intro T (And.intro D (And.intro L (And.intro H b))))
      clear T D L H b
      go_wp2_with (refine wpList_store_row rfl 118 _ _ rfl tk zT.toArray rfl rfl 118 _ hgrow zT_size rfl zT_one ?_)
      clear hgrow q0
      obtain ⟨T, D, L, H, b⟩ := HX.out
      have ZX : Blk (wr.setRow tk zT.toArray) tk 118 (tokC 0 0 [] 0 (.float .f64 0)) := row_zero T
      have kzX : Kp [tk] wr (wr.setRow tk zT.toArray) := kp_row wr tk _
      generalize wr.setRow tk zT.toArray = X at *
      have hx := HD.out
      have DX := D.kp kzX (by simp [hx.dd.2.2.2.2.2.2])
      have LX := L.kp kzX (by simp [hx.ll.2.2.2.2])
      have HcX := H.kp kzX (by simp; omega)
      have bX : Kp [ch] w X := b.step kzX (by simp; omega)
      refine (stepEnd d s sk lf tk 1 0 X (fun w' => Blk w' tk 118 (tokC 125 0 [] 0 (.float .f64 0)) ∧ Kp [tk, d] X w') DX ((stEnd d s sk lf tk 0 0 0 [] (.float .f64 0) _ X hx.dd.2.2.2.2.2.2 DX LX ZX).mono (by rintro e w' ⟨rfl, h1, h2, h3⟩; exact ⟨rfl, h2, h1, h3⟩))).mono ?_
      rintro e y ⟨rfl, T5, k5⟩
      have H5 := HcX.kp k5 (by simp; omega)
      have b5 : Kp [ch] w y := bX.step k5 (by intro i hi; simp at hi; omega)
      have q0 : y.cell? ⟨tk, 0, none⟩ = some (.int .u8 125) := T5.cell 0
      have HY := Lib.hid (And.intro H5 b5)
      clear T D L H b T5 k5 H5 b5 ZX kzX DX LX HcX bX hx
      go_wp2_with fail
      go_ret
      exact ⟨rfl, HY.out⟩
end Go.Proofs.YtakkdpbpoghfgaaGreatDoor
