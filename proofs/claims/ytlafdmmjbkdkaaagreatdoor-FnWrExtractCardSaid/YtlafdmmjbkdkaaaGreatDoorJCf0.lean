/-
  shared.NewReader, cbor.NewDecoder over a bytes.Reader. Conditions: as each contract says.
  carv1.zzDecodeHeader of the pragma's ten bytes: a header of version 2 without roots. Conditions: as the contract says.
-/
import Derived.Test.YtlafdmmjbkdkaaaGreatDoorCe
namespace Go.Proofs.YtlafdmmjbkdkaaaGreatDoor
open Go.RowKit

/-- The cells of a new SlickReaderStream. -/
def slNew (q : Nat) : Array Value := (.iface 219 (.pointer (some ⟨q, 0, none⟩)) :: (List.replicate 32 (.int .u8 0) ++ [.int .i64 0, .slice none 0 0, .bool false])).toArray

set_option maxRecDepth 100000 in
set_option maxHeartbeats 2000000 in
theorem newStream (r : Nat) (w : World) :
    Calls Tryz.prog 94 #[.iface 51 (.pointer (some ⟨r, 0, none⟩))] w fun e w' => e = .returned (.iface 218 (.pointer (some ⟨w.heap.size + 1, 0, none⟩))) ∧
      w' = (w.alloc (.cells (rtsC r 0 0 0) 221)).alloc (.cells (slNew w.heap.size) 226) := by
  go_enter Tryz.func94, Tryz.ntmps94
  go_wp2_with fail
  go_ret
  exact ⟨rfl, rfl⟩

theorem Blk.new' {W : World} {g : Nat} {t : TypeId} {cs : Array Value} (h : g = W.heap.size) : Blk (W.alloc (.cells cs t)) g t cs := by
  subst h
  exact Blk.new _ _ _

theorem blk_drew {W : World} {g : Nat} {t : TypeId} {cs : Array Value} (h : Blk W g t cs) : Blk W.drew g t cs := h

/-- What NewDecoder makes. -/
structure DecNew (w' : World) (B d s q sk lf r : Nat) : Prop where
  D : Blk w' d 191 (decC s sk lf 0 0 0)
  S : Blk w' s 226 (slNew q)
  Q : Blk w' q 221 (rtsC r 0 0 0)
  K : Blk w' sk 189 (List.replicate 10 (.int .u8 0)).toArray
  L : Blk w' lf 3 (List.replicate 10 (.int .i64 0)).toArray
  b : B ≤ d ∧ B ≤ s ∧ B ≤ q ∧ B ≤ sk ∧ B ≤ lf
  n : d ≠ s ∧ d ≠ q ∧ d ≠ sk ∧ d ≠ lf ∧ s ≠ q ∧ sk ≠ s ∧ sk ≠ q ∧ sk ≠ lf ∧ lf ≠ s ∧ lf ≠ q

set_option maxRecDepth 100000 in
set_option maxHeartbeats 4000000 in
theorem newDec (r : Nat) (w : World) :
    Calls Tryz.prog 81 #[.agg #[.bool true, .bool false, .int .i64 0, .bool false, .bool false, .bool false, .bool false], .iface 51 (.pointer (some ⟨r, 0, none⟩))] w fun e w' => ∃ d s q sk lf : Nat, e = .returned (.pointer (some ⟨d, 0, none⟩)) ∧ DecNew w' w.heap.size d s q sk lf r ∧
      Below w.heap.size w w' := by
  obtain ⟨W, hW⟩ : ∃ W, w.alloc (.cells #[.bool true, .bool false, .int .i64 0, .bool false, .bool false, .bool false, .bool false] 149) = W := ⟨_, rfl⟩
  obtain ⟨f, hf⟩ : ∃ f, w.heap.size = f := ⟨_, rfl⟩
  have B0 : Blk W f 149 #[.bool true, .bool false, .int .i64 0, .bool false, .bool false, .bool false, .bool false] := by rw [← hW, ← hf]; exact Blk.new _ _ _
  have bW : Below w.heap.size w W := by rw [← hW]; exact Old.alloc (Below.refl _ _) _
  have hsz : f < W.heap.size := B0.lt
  have H := Lib.hid (newStream r)
  have HB := Lib.hid (And.intro bW hf)
  have c0 : W.cell? ⟨f, 0, none⟩ = some (.bool true) := B0.cell 0
  have c1 : W.cell? ⟨f, 1, none⟩ = some (.bool false) := B0.cell 1
  have c2 : W.cell? ⟨f, 2, none⟩ = some (.int .i64 0) := B0.cell 2
  have c3 : W.cell? ⟨f, 3, none⟩ = some (.bool false) := B0.cell 3
  have c4 : W.cell? ⟨f, 4, none⟩ = some (.bool false) := B0.cell 4
  have c5 : W.cell? ⟨f, 5, none⟩ = some (.bool false) := B0.cell 5
  have c6 : W.cell? ⟨f, 6, none⟩ = some (.bool false) := B0.cell 6
  obtain ⟨i0, hi0, hz0, hz1, hz2⟩ := info_parts infoI
  obtain ⟨i1, hi1, hy0, hy1, hy2⟩ := info_parts infoPh
  have hmk8 : ∀ W : World, (Instr.makeSlice 188 (.int .i64 0) (.int .i64 10)).run Tryz.prog W = .ok (.slice (some ⟨W.heap.size, 0, none⟩) 0 10) (W.alloc (.cells (List.replicate 10 (.int .u8 0)).toArray 189)) := by
    intro W
    have hr := run_make (P := Tryz.prog) W 188 189 i1 (.int .u8 0) Tryz.underlying188 hi1 hy0 .i64 .i64 0 10 (by omega) (by omega) (by rw [hy2]; omega) (by omega)
    have ht0 : madeCells #[Value.int .u8 0] 10 = (List.replicate 10 (Value.int .u8 0)).toArray := by
      rw [← toList_madeCells_one (.int .u8 0) 10]
    rw [← ht0]
    simpa [hy1, Value.cells] using hr
  have hmk9 : ∀ W : World, (Instr.makeSlice 93 (.int .i64 0) (.int .i64 10)).run Tryz.prog W = .ok (.slice (some ⟨W.heap.size, 0, none⟩) 0 10) (W.alloc (.cells (List.replicate 10 (.int .i64 0)).toArray 3)) := by
    intro W
    have hr := run_make (P := Tryz.prog) W 93 3 i0 (.int .i64 0) Tryz.underlying93 hi0 hz0 .i64 .i64 0 10 (by omega) (by omega) (by rw [hz2]; omega) (by omega)
    have ht0 : madeCells #[Value.int .i64 0] 10 = (List.replicate 10 (Value.int .i64 0)).toArray := by
      rw [← toList_madeCells_one (.int .i64 0) 10]
    rw [← ht0]
    simpa [hz1, Value.cells] using hr
  clear B0 bW hi0 hi1 hz0 hz1 hz2 hy0 hy1 hy2
  go_enter Tryz.func81, Tryz.ntmps81
  go_wp2_with fail
  clear hW hf
  go_region_held3 (fun w' => Below W.heap.size W w' ∧ ∀ b o, b < W.heap.size → w'.cell? ⟨b, o, none⟩ = W.cell? ⟨b, o, none⟩) (first | exact stay_drew W | exact stay_alloc ‹_› _ | exact stay_alloc (stay_alloc ‹_› _) _ | go_keep)
    (first
      | (go_at_call 94; refine (H.out _).mono ?_; rintro _ w1 ⟨rfl, rfl⟩))
  all_goals rename_i hh
  all_goals replace hh := Lib.hid hh.1
  all_goals go_wp2_with fail
  all_goals go_ret
  all_goals
    apply Exists.intro
    apply Exists.intro
    apply Exists.intro
    apply Exists.intro
    apply Exists.intro
    refine ⟨rfl, ?_, ?_⟩
    · apply DecNew.mk
      all_goals first
        | exact blk_drew (Blk.new' (by simp))
        | exact blk_drew ((Blk.new' (by simp)).alloc _)
        | exact blk_drew (((Blk.new' (by simp)).alloc _).alloc _)
        | exact blk_drew ((((Blk.new' (by simp)).alloc _).alloc _).alloc _)
        | exact blk_drew (((((Blk.new' (by simp)).alloc _).alloc _).alloc _).alloc _)
        | (have := HB.out.1.size; omega)
        | trace_state
    · exact (Old.trans HB.out.1 hh.out)
end Go.Proofs.YtlafdmmjbkdkaaaGreatDoor

namespace Go.Proofs.YtlafdmmjbkdkaaaGreatDoor
open Go.RowKit

/-- The cells of a CarHeader without roots. -/
def chC (v : Int) : Array Value := #[.slice none 0 0, .int .u64 v]

theorem slNew_B {w : World} {s q : Nat} (h : Blk w s 226 (slNew q)) : SlB w s q 0 := ⟨List.replicate 32 (.int .u8 0), by simp, h⟩

/-- The zero token's cells. -/
def zT : List Value := [.int .u8 0, .int .i64 0, .string ⟨#[]⟩, .slice none 0 0, .bool false, .int .i64 0, .int .u64 0, .float .f64 0, .bool false, .int .i64 0]

theorem zT_size : (Tryz.prog.info? 153).map (·.size) = some zT.toArray.size := by kernel_rfl
theorem zT_one : zT.toArray.all (·.oneCell') = true := by kernel_rfl
theorem row_zero {w : World} {tk : Nat} {cs : Array Value} (h : Blk w tk 153 cs) : Blk (w.setRow tk zT.toArray) tk 153 (tokC 0 0 [] 0 (.float .f64 0)) := setRow_heap w tk _ _ _ _ h
theorem kp_row (w : World) (tk : Nat) (cs : Array Value) : Kp [tk] w (w.setRow tk cs) := ⟨rfl, rfl, rfl, by simp, fun k _ hn => setRow_other w tk k cs (by simpa using hn)⟩

/-- Behind the map's opening. -/
structure StA (tk d s q r g sk lf ch : Nat) (aE : Addr) (lr : List Value) (w wr : World) : Prop where
  T : Blk wr tk 153 (tokC 123 1 [] 0 (.float .f64 0))
  D : Blk wr d 191 (decC s sk lf 1 5 1)
  L : Blk wr lf 3 (.int .i64 1 :: lr).toArray
  S : Str wr s q r g aE 1 1
  H : Blk wr ch 109 (chC 0)
  b : Below w.heap.size w wr
/-- Behind the value. -/
structure StB (tk d s sk lf ch : Nat) (lr : List Value) (w wr : World) : Prop where
  T : Blk wr tk 153 (tokC 117 0 [] 2 (.float .f64 0))
  D : Blk wr d 191 (decC s sk lf 1 5 1)
  L : Blk wr lf 3 (.int .i64 0 :: lr).toArray
  H : Blk wr ch 109 (chC 2)
  b : Kp [ch] w wr

set_option maxRecDepth 100000 in
set_option maxHeartbeats 8000000 in
theorem decHead (g ch : Nat) (aE : Addr) (w : World) (hC : Bs w g 0 pt) (hch : Blk w ch 109 (chC 0)) (hE : Ee w 2 aE) (hgl : g < w.heap.size) (hEc : 2 ≠ ch) (hgc : g ≠ ch) :
    Calls Tryz.prog 73 #[.slice (some ⟨g, 0, none⟩) 10 10, .pointer (some ⟨ch, 0, none⟩)] w fun e w' => e = .returned .nilIface ∧ Blk w' ch 109 (chC 2) ∧ Kp [ch] w w' := by
  have hcl := hch.lt
  have hEl := hE.lt
  have HI := Lib.hid (And.intro hC (And.intro hch (And.intro hE (And.intro hEc hgc))))
  clear hC hch hE hEc hgc
  go_enter Tryz.func73, Tryz.ntmps73
  go_wp2_with fail
  refine (newReader_any g 0 10 10 w).mono ?_
  rintro e w1 ⟨rfl, R1, b1⟩
  go_wp2_with fail
  obtain ⟨r, hr⟩ : ∃ r, w.heap.size = r := ⟨_, rfl⟩
  rw [hr] at R1
  simp only [hr]
  refine (newDec r w1).mono ?_
  rintro e w2 ⟨d, s, q, sk, lf, rfl, DN, b2⟩
  go_wp2_with fail
  obtain ⟨tk, htk⟩ : ∃ tk, w2.heap.size = tk := ⟨_, rfl⟩
  have T3 : Blk (w2.alloc (.cells #[.int .u8 0, .int .i64 0, .string ⟨#[]⟩, .slice none 0 0, .bool false, .int .i64 0, .int .u64 0, .float .f64 0, .bool false, .int .i64 0] 153)) tk 153 (tokC 0 0 [] 0 (.float .f64 0)) := by rw [← htk]; exact Blk.new _ _ _
  have b3 := Old.alloc (Below.refl w2.heap.size w2) (.cells #[.int .u8 0, .int .i64 0, .string ⟨#[]⟩, .slice none 0 0, .bool false, .int .i64 0, .int .u64 0, .float .f64 0, .bool false, .int .i64 0] 153)
  simp only [htk]
  have rl := R1.lt
  have l1 := b2.size
  have m1 := DN.D.lt
  have m2 := DN.S.lt
  have m3 := DN.Q.lt
  have m4 := DN.K.lt
  have m5 := DN.L.lt
  have hD : Dis d s q r g sk lf tk := by
    obtain ⟨B1, B2, B3, B4, B5⟩ := DN.b
    obtain ⟨n1, n2, n3, n4, n5, n6, n7, n8, n9, n10⟩ := Lib.hid DN.n |>.out
    have N := Lib.hid (And.intro n1 (And.intro n2 (And.intro n3 (And.intro n4 (And.intro n5 (And.intro n6 (And.intro n7 (And.intro n8 (And.intro n9 n10)))))))))
    clear n1 n2 n3 n4 n5 n6 n7 n8 n9 n10
    obtain ⟨n1, n2, n3, n4, n5, n6, n7, n8, n9, n10⟩ := N.out
    exact ⟨⟨n1, n2, (by clear n1 n2 n3 n4 n5 n6 n7 n8 n9 n10; omega), (by clear n1 n2 n3 n4 n5 n6 n7 n8 n9 n10; omega), n3, n4, (by clear n1 n2 n3 n4 n5 n6 n7 n8 n9 n10; omega)⟩,
      ⟨n6, n7, (by clear n1 n2 n3 n4 n5 n6 n7 n8 n9 n10; omega), (by clear n1 n2 n3 n4 n5 n6 n7 n8 n9 n10; omega), n8, (by clear n1 n2 n3 n4 n5 n6 n7 n8 n9 n10; omega)⟩,
      ⟨n9, n10, (by clear n1 n2 n3 n4 n5 n6 n7 n8 n9 n10; omega), (by clear n1 n2 n3 n4 n5 n6 n7 n8 n9 n10; omega), (by clear n1 n2 n3 n4 n5 n6 n7 n8 n9 n10; omega)⟩,
      (by clear n1 n2 n3 n4 n5 n6 n7 n8 n9 n10; omega), (by clear n1 n2 n3 n4 n5 n6 n7 n8 n9 n10; omega)⟩
  have ub : (r ≤ d ∧ r ≤ s ∧ r ≤ q ∧ r ≤ sk ∧ r ≤ lf ∧ r ≤ tk) := by have := DN.b; omega
  have b13 : Below w.heap.size w (w2.alloc (.cells #[.int .u8 0, .int .i64 0, .string ⟨#[]⟩, .slice none 0 0, .bool false, .int .i64 0, .int .u64 0, .float .f64 0, .bool false, .int .i64 0] 153)) := Old.trans (Old.trans b1 b2) b3
  have Str3 : Str (w2.alloc (.cells #[.int .u8 0, .int .i64 0, .string ⟨#[]⟩, .slice none 0 0, .bool false, .int .i64 0, .int .u64 0, .float .f64 0, .bool false, .int .i64 0] 153)) s q r g aE 0 0 := by
    have hb := DN.b
    refine ⟨slNew_B (DN.S.alloc _), ⟨0, 0, 0, rfl, DN.Q.alloc _⟩, (R1.old b2).old b3, HI.out.1.old b13, HI.out.2.2.1.old b13, ⟨by omega, by omega, by omega, by omega, DN.n.2.2.2.2.1, by omega⟩, ⟨by omega, by omega, by omega⟩⟩
  have D3 := DN.D.alloc (.cells #[.int .u8 0, .int .i64 0, .string ⟨#[]⟩, .slice none 0 0, .bool false, .int .i64 0, .int .u64 0, .float .f64 0, .bool false, .int .i64 0] 153)
  have K3 := DN.K.alloc (.cells #[.int .u8 0, .int .i64 0, .string ⟨#[]⟩, .slice none 0 0, .bool false, .int .i64 0, .int .u64 0, .float .f64 0, .bool false, .int .i64 0] 153)
  have L3 := DN.L.alloc (.cells #[.int .u8 0, .int .i64 0, .string ⟨#[]⟩, .slice none 0 0, .bool false, .int .i64 0, .int .u64 0, .float .f64 0, .bool false, .int .i64 0] 153)
  have H3 := HI.out.2.1.old b13
  have hsv := stVal d s q r g sk lf tk 0 aE 0 0 0 [] (.float .f64 0) _ _ (w2.alloc (.cells #[.int .u8 0, .int .i64 0, .string ⟨#[]⟩, .slice none 0 0, .bool false, .int .i64 0, .int .u64 0, .float .f64 0, .bool false, .int .i64 0] 153)) hD D3 K3 (by simp) L3 (by simp) T3 Str3 (by omega)
  refine (stepVal d s sk lf tk 0 0 _ _ D3 hsv).mono ?_
  rintro e w4 ⟨rfl, T4, D4, L4, S4, k4⟩
  have kk4 : Below w.heap.size w w4 := below_kp b13 k4 b13.size (by intro i hi; simp at hi; omega)
  have H4 := H3.kp k4 (by simp; omega)
  have A4 : StA tk d s q r g sk lf ch aE _ w w4 := ⟨T4, D4, L4, S4, H4, kk4⟩
  have q0 : w4.cell? ⟨tk, 0, none⟩ = some (.int .u8 123) := T4.cell 0
  have HA := Lib.hid A4
  have hrle : w.heap.size ≤ r := by omega
  have hcr : ch < r := by omega
  have HD := Lib.hid hD
  clear A4 hD T3 b3 m1 m2 m3 m4 m5 b13 Str3 D3 K3 L3 H3 hsv T4 D4 L4 S4 k4 kk4 H4 R1 b1 DN b2 hr htk l1 rl
  go_wp2_with fail
  clear q0
  go_loopw [7, 8] (fun x e wr => x = .bool false ∧ e = .nilIface ∧ (StA tk d s q r g sk lf ch aE ((List.replicate 10 (Value.int .i64 0)).drop 1) w wr ∨ StB tk d s sk lf ch ((List.replicate 10 (Value.int .i64 0)).drop 1) w wr)) (fun _ _ wr => (intOf ((wr.cell? ⟨lf, 0, none⟩).getD undef)).toNat)
  case atStart => exact ⟨rfl, rfl, .inl HA.out⟩
  case round =>
    clear HA
    obtain ⟨rfl, rfl, A | B⟩ := hrel
    · obtain ⟨T, D, L, S, H, b⟩ := A
      have hgrow : wr.heap[tk]? = some (.cells (tokC 123 1 [] 0 (.float .f64 0)) 153 (0, 0)) := T
      have q0 : wr.cell? ⟨tk, 0, none⟩ = some (.int .u8 123) := T.cell 0
      have cL : wr.cell? ⟨lf, 0, none⟩ = some (.int .i64 1) := L.cell 0
      have HX := Lib.hid (And.intro T (And.intro D (And.intro L (And.intro S (And.intro H (And.intro b cL))))))
      clear T D L S H b cL
      go_wp2_with (refine wpList_store_row rfl 153 _ _ rfl tk zT.toArray rfl rfl 153 _ hgrow zT_size rfl zT_one ?_)
      clear hgrow q0
      obtain ⟨T, D, L, S, H, b, cL⟩ := HX.out
      have ZX : Blk (wr.setRow tk zT.toArray) tk 153 (tokC 0 0 [] 0 (.float .f64 0)) := row_zero T
      have kzX : Kp [tk] wr (wr.setRow tk zT.toArray) := kp_row wr tk _
      generalize wr.setRow tk zT.toArray = X at *
      have hx := HD.out
      have DX := D.kp kzX (by simp [hx.dd.2.2.2.2.2.2])
      have LX := L.kp kzX (by simp [hx.ll.2.2.2.2])
      have SX := S.kp kzX (by simp [hx.tt.1.symm, hx.tt.2.1.symm, hx.tt.2.2.1.symm, hx.tt.2.2.2.symm, hx.ee.2.2.2])
      have HcX := H.kp kzX (by simp; omega)
      have bX : Below w.heap.size w X := below_kp b kzX b.size (by simp; omega)
      refine (stepKey d s sk lf tk 1 1 X _ DX (stKey d s q r g sk lf tk 1 aE 0 0 0 [] (.float .f64 0) _ X hx DX LX ZX SX (by omega))).mono ?_
      rintro e y ⟨rfl, T5, D5, L5, S5, k5⟩
      have H5 := HcX.kp k5 (by simp; omega)
      have b5 : Below w.heap.size w y := below_kp bX k5 bX.size (by intro i hi; simp at hi; omega)
      have hgrow : y.heap[tk]? = some (.cells (tokC 115 0 verB 0 (.float .f64 0)) 153 (0, 0)) := T5
      have q0 : y.cell? ⟨tk, 0, none⟩ = some (.int .u8 115) := T5.cell 0
      have q2 : y.cell? ⟨tk, 2, none⟩ = some (.string ⟨#[118, 101, 114, 115, 105, 111, 110]⟩) := T5.cell 2
      have HY := Lib.hid (And.intro T5 (And.intro D5 (And.intro L5 (And.intro S5 (And.intro H5 b5)))))
      clear T D L S H b T5 D5 L5 S5 H5 b5 ZX kzX DX LX SX HcX bX k5 hx
      go_wp2_with (refine wpList_store_row rfl 153 _ _ rfl tk zT.toArray rfl rfl 153 _ hgrow zT_size rfl zT_one ?_)
      clear hgrow q0 q2
      obtain ⟨T, D, L, S, H, b⟩ := HY.out
      have ZY : Blk (y.setRow tk zT.toArray) tk 153 (tokC 0 0 [] 0 (.float .f64 0)) := row_zero T
      have kzY : Kp [tk] y (y.setRow tk zT.toArray) := kp_row y tk _
      generalize y.setRow tk zT.toArray = Y at *
      have hx := HD.out
      have DY := D.kp kzY (by simp [hx.dd.2.2.2.2.2.2])
      have LY := L.kp kzY (by simp [hx.ll.2.2.2.2])
      have SY := S.kp kzY (by simp [hx.tt.1.symm, hx.tt.2.1.symm, hx.tt.2.2.1.symm, hx.tt.2.2.2.symm, hx.ee.2.2.2])
      have HcY := H.kp kzY (by simp; omega)
      have bY : Below w.heap.size w Y := below_kp b kzY b.size (by simp; omega)
      refine (stepMap d s sk lf tk 1 1 Y _ DY (stMap d s q r g sk lf tk (1 + 8) aE 0 0 0 [] (.float .f64 0) Y hx DY ZY SY (by omega))).mono ?_
      rintro e z ⟨rfl, T6, D6, k6⟩
      have L6 := LY.kp k6 (by simp [hx.ll.1, hx.ll.2.1, hx.ll.2.2.1, hx.ll.2.2.2.2, hx.dd.2.2.2.2.2.1.symm])
      have H6 := HcY.kp k6 (by simp; omega)
      have b6 : Below w.heap.size w z := below_kp bY k6 bY.size (by intro i hi; simp at hi; omega)
      have q0 : z.cell? ⟨tk, 0, none⟩ = some (.int .u8 117) := T6.cell 0
      have q6 : z.cell? ⟨tk, 6, none⟩ = some (.int .u64 2) := T6.cell 6
      have p1 : z.cell? ⟨ch, 1, none⟩ = some (.int .u64 0) := H6.cell 1
      have fp := H6.frozen 1
      have HZ := Lib.hid (And.intro T6 (And.intro D6 (And.intro L6 (And.intro H6 b6))))
      clear T D L S H b T6 D6 L6 H6 b6 ZY kzY DY LY SY HcY bY k6 hx
      go_wp2_with fail
      obtain ⟨T, D, L, H, b⟩ := HZ.out
      have hne : ∀ x, r ≤ x → x ≠ ch := by intro x hx; omega
      have LZ := L.far (p := ⟨ch, 1, none⟩) (hne lf ub.2.2.2.2.1) (.int .u64 2)
      refine ⟨⟨rfl, rfl, .inr ⟨T.far (p := ⟨ch, 1, none⟩) (hne tk ub.2.2.2.2.2) _, D.far (p := ⟨ch, 1, none⟩) (hne d ub.1) _, LZ, H.set_ 1 _, (Kp.of_below b [ch]).setCell (p := ⟨ch, 1, none⟩) (.inl (by simp)) _⟩⟩, ?_⟩
      have e1 := HX.out.2.2.2.2.2.2
      have e2 : (z.setCell ⟨ch, 1, none⟩ (.int .u64 2)).cell? ⟨lf, 0, none⟩ = some (.int .i64 0) := LZ.cell 0
      rw [e1, e2]
      simp [intOf]
    · obtain ⟨T, D, L, H, b⟩ := B
      have hgrow : wr.heap[tk]? = some (.cells (tokC 117 0 [] 2 (.float .f64 0)) 153 (0, 0)) := T
      have q0 : wr.cell? ⟨tk, 0, none⟩ = some (.int .u8 117) := T.cell 0
      have HX := Lib.hid (And.intro T (And.intro D (And.intro L (And.intro H b))))
      clear T D L H b
      go_wp2_with (refine wpList_store_row rfl 153 _ _ rfl tk zT.toArray rfl rfl 153 _ hgrow zT_size rfl zT_one ?_)
      clear hgrow q0
      obtain ⟨T, D, L, H, b⟩ := HX.out
      have ZX : Blk (wr.setRow tk zT.toArray) tk 153 (tokC 0 0 [] 0 (.float .f64 0)) := row_zero T
      have kzX : Kp [tk] wr (wr.setRow tk zT.toArray) := kp_row wr tk _
      generalize wr.setRow tk zT.toArray = X at *
      have hx := HD.out
      have DX := D.kp kzX (by simp [hx.dd.2.2.2.2.2.2])
      have LX := L.kp kzX (by simp [hx.ll.2.2.2.2])
      have HcX := H.kp kzX (by simp; omega)
      have bX : Kp [ch] w X := b.step kzX (by simp; omega)
      refine (stepEnd d s sk lf tk 1 0 X (fun w' => Blk w' tk 153 (tokC 125 0 [] 0 (.float .f64 0)) ∧ Kp [tk, d] X w') DX ((stEnd d s sk lf tk 0 0 0 [] (.float .f64 0) _ X hx.dd.2.2.2.2.2.2 DX LX ZX).mono (by rintro e w' ⟨rfl, h1, h2, h3⟩; exact ⟨rfl, h2, h1, h3⟩))).mono ?_
      rintro e y ⟨rfl, T5, k5⟩
      have H5 := HcX.kp k5 (by simp; omega)
      have b5 : Kp [ch] w y := bX.step k5 (by intro i hi; simp at hi; omega)
      have q0 : y.cell? ⟨tk, 0, none⟩ = some (.int .u8 125) := T5.cell 0
      have HY := Lib.hid (And.intro H5 b5)
      clear T D L H b T5 k5 H5 b5 ZX kzX DX LX HcX bX hx
      go_wp2_with fail
      go_ret
      exact ⟨rfl, HY.out⟩
end Go.Proofs.YtlafdmmjbkdkaaaGreatDoor
