/-
  io.LimitedReader over a bytes.Reader, as far as there are bytes: the walks of Read, io.ReadAtLeast, io.ReadFull, io.LimitReader. Conditions: as each contract says.
-/
import Derived.Test.YtaionnajhgjekaaDoorRf
namespace Go.Proofs.YtaionnajhgjekaaDoor
open Go.RowKit

theorem Kb.mono' {B B' : Nat} {L : List Nat} {x y : World} (h : Kb B L x y) (hB : B' ≤ B) : Kb B' L x y := ⟨h.os, h.tape, h.output, h.size, fun k hk hn => h.block k (Nat.lt_of_lt_of_le hk hB) hn⟩
theorem Blk.kb' {B : Nat} {L : List Nat} {x y : World} {g : Nat} {t : TypeId} {cs : Array Value} (h : Blk x g t cs) (k : Kb B L x y) (hB : g < B) (hg : g ∉ L) : Blk y g t cs := (k.block g hB hg).trans h

theorem Bs.kb {B : Nat} {Ls : List Nat} {w w' : World} {g o : Nat} {l : List UInt8} (h : Bs w g o l) (k : Kb B Ls w w') (hB : g < B) (hg : g ∉ Ls) : Bs w' g o l := fun j hj => (k.cell (p := ⟨g, _, none⟩) hB hg).trans (h j hj)
theorem Rdr.kb {B : Nat} {Ls : List Nat} {w w' : World} {r g o n c i : Nat} (h : Rdr w r g o n c i) (k : Kb B Ls w w') (hB : r < B) (hg : r ∉ Ls) : Rdr w' r g o n c i := by obtain ⟨p, h⟩ := h; exact ⟨p, (k.block r hB hg).trans h⟩

/-- A limited reader in block t over a reader of bytes in block r that stands at number q + j; the limit ends at number M. -/
def Lrq (t r g o N c M q : Nat) (W : World) (j : Nat) : Prop := Rdr W r g o N c (q + j) ∧ Blk W t 142 #[.iface 60 (.pointer (some ⟨r, 0, none⟩)), .int .i64 ((M - (q + j) : Nat) : Int)]
theorem Lrq.old {t r g o N c M q j : Nat} {W V : World} (h : Lrq t r g o N c M q W j) (hb : Below W.heap.size W V) : Lrq t r g o N c M q V j := ⟨h.1.old hb, h.2.old hb⟩
theorem Lrq.drewN {t r g o N c M q j : Nat} {W : World} (h : Lrq t r g o N c M q W j) (k : Nat) : Lrq t r g o N c M q (W.drewN k) j := h
theorem Lrq.far {t r g o N c M q j : Nat} {W : World} (h : Lrq t r g o N c M q W j) {p : Addr} (hr : r ≠ p.block) (ht : t ≠ p.block) (u : Value) : Lrq t r g o N c M q (W.setCell p u) j := by
  obtain ⟨⟨x, h1⟩, h2⟩ := h
  exact ⟨⟨x, h1.far hr u⟩, h2.far ht u⟩
theorem Lrq.alloc {t r g o N c M q j : Nat} {W : World} (h : Lrq t r g o N c M q W j) (x : Obj) : Lrq t r g o N c M q (W.alloc x) j := h.old (Old.alloc (Below.refl _ _) _)
theorem Lrq.lt {t r g o N c M q j : Nat} {W : World} (h : Lrq t r g o N c M q W j) : r < W.heap.size ∧ t < W.heap.size := ⟨h.1.lt, h.2.lt⟩

theorem drop_app {L l more : List UInt8} {q j : Nat} (hL : L.drop q = l ++ more) (hj : j ≤ l.length) : L.drop (q + j) = l.drop j ++ more := by
  rw [← List.drop_drop, hL, List.drop_append_of_le_length hj]
theorem take_app {L l more : List UInt8} {q j m : Nat} (hL : L.drop q = l ++ more) (hj : j + m ≤ l.length) : (L.drop (q + j)).take m = (l.drop j).take m := by
  rw [drop_app hL (by omega), List.take_append_of_le_length (by rw [List.length_drop]; omega)]
theorem len_app {L l more : List UInt8} {q : Nat} (hL : L.drop q = l ++ more) : q + l.length ≤ L.length ∨ l.length = 0 := by
  have := congrArg List.length hL
  rw [List.length_drop, List.length_append] at this
  omega

set_option maxRecDepth 100000 in
set_option maxHeartbeats 2000000 in
theorem ltRead_ok (t r g o N c M q j gd od m cd : Nat) (L l more : List UInt8) (A zs : List Value) (ty : TypeId) (w : World) (h : Lrq t r g o N c M q w j) (hc : Bs w g o L) (hN : N = L.length) (hNc : N ≤ c) (hNl : L.length ≤ 2147483647) (hL : L.drop q = l ++ more) (hm0 : 0 < m) (hjm : j + m ≤ l.length) (hM : q + l.length ≤ M) (hMb : M ≤ 4611686018427387904)
    (hd : Blk w gd ty (A ++ zs).toArray) (hA : A.length = od) (hz : m ≤ zs.length) (hD : gd ≠ r ∧ g ≠ gd ∧ g ≠ r ∧ t ≠ r ∧ t ≠ gd) :
    Calls Tryd.prog 110 #[.pointer (some ⟨t, 0, none⟩), .slice (some ⟨gd, od, none⟩) m cd] w fun e w' => e = .returned (.tuple #[.int .i64 m, .nilIface]) ∧ Lrq t r g o N c M q w' (j + m) ∧
      Blk w' gd ty ((A ++ Lib.byteCells ((l.drop j).take m)) ++ zs.drop m).toArray ∧ (∀ B Ls, (r ∈ Ls ∨ B ≤ r) → (t ∈ Ls ∨ B ≤ t) → (gd ∈ Ls ∨ B ≤ gd) → Kb B Ls w w') := by
  have hmr : ∀ W, (method 283 60 (.pointer (some ⟨r, 0, none⟩)) "Read").run Tryd.prog W = .ok (104, .pointer (some ⟨r, 0, none⟩)) W := fun _ => by kernel_rfl
  have hla := len_app hL
  have hrd := rdRead_some r g o N c (q + j) gd od m cd m L A zs ty w h.1 hc hN (by omega) hNc hNl hd hA hz (by omega) hD.1 hD.2.1 hD.2.2.1
  rw [take_app hL hjm] at hrd
  obtain ⟨R, hR⟩ : ∃ R, M - (q + j) = R := ⟨_, rfl⟩
  have hb := h.2
  rw [hR] at hb
  have q0 : w.cell? ⟨t, 0, none⟩ = some (.iface 60 (.pointer (some ⟨r, 0, none⟩))) := hb.cell 0
  have q1 : w.cell? ⟨t, 1, none⟩ = some (.int .i64 R) := hb.cell 1
  have d0 : decide (R = 0) = false := by simp; omega
  have d1 : decide (R < m) = false := by simp; omega
  have d2 : decide ((R : Int) < (m : Int)) = false := by simp; omega
  have hR2 : M - (q + (j + m)) = R - m := by omega
  have hRm : m ≤ R := by omega
  have hRb : R ≤ 4611686018427387904 := by omega
  have hwr : IntKind.i64.wrap ((R : Int) - (m : Int)) = ((R - m : Nat) : Int) := by rw [IntKind.wrap_i64]; omega
  have HR := Lib.hid (And.intro hrd (And.intro hD (And.intro hb hR2)))
  clear hrd hD hb hR hR2 hla hjm hM hMb hL hm0 h hc hN hNc hNl hd hA hz
  go_enter Tryd.func110, Tryd.ntmps110
  go_wp2_with fail
  refine HR.out.1.mono ?_
  rintro e w1 ⟨rfl, R1, D1, K1⟩
  have k1 := K1 (t + 1) [r, gd] (.inl (by simp)) (.inl (by simp))
  have B1 := HR.out.2.2.1.kb' k1 (Nat.lt_succ_self _) (by simpa using ⟨HR.out.2.1.2.2.2.1, HR.out.2.1.2.2.2.2⟩)
  have q0' : w1.cell? ⟨t, 0, none⟩ = some (.iface 60 (.pointer (some ⟨r, 0, none⟩))) := B1.cell 0
  have q1' : w1.cell? ⟨t, 1, none⟩ = some (.int .i64 R) := B1.cell 1
  have f1 := B1.frozen 1
  clear q0 q1 k1
  go_wp2_with fail
  go_ret2
  refine ⟨rfl, ⟨?_, ?_⟩, D1.far (fun h => HR.out.2.1.2.2.2.2 h.symm) _, fun B Ls h1 h2 h3 => (K1 B Ls h1 h3).setCell (p := ⟨t, 1, none⟩) h2 _⟩
  · obtain ⟨x, R1⟩ := R1
    rw [← Nat.add_assoc]
    exact ⟨x, R1.far (fun h => HR.out.2.1.2.2.2.1 h.symm) _⟩
  · rw [HR.out.2.2.2]
    exact B1.set_ 1 (.int .i64 ((R - m : Nat) : Int))

/-- What ReadFull comes to over a limited reader that has the bytes. -/
def RlPost (t r g o N c M q j gd m : Nat) (l : List UInt8) (A zs : List Value) (ty : TypeId) (w : World) (e : Ending) (w' : World) : Prop :=
  e = .returned (.tuple #[.int .i64 m, .nilIface]) ∧ Lrq t r g o N c M q w' (j + m) ∧
      Blk w' gd ty ((A ++ Lib.byteCells ((l.drop j).take m)) ++ zs.drop m).toArray ∧ (∀ B Ls, (r ∈ Ls ∨ B ≤ r) → (t ∈ Ls ∨ B ≤ t) → (gd ∈ Ls ∨ B ≤ gd) → Kb B Ls w w')

set_option maxRecDepth 100000 in
set_option maxHeartbeats 2000000 in
theorem readAtLeastL_ok (t r g o N c M q j gd od m cd : Nat) (L l more : List UInt8) (A zs : List Value) (ty : TypeId) (w : World) (h : Lrq t r g o N c M q w j) (hc : Bs w g o L) (hN : N = L.length) (hNc : N ≤ c) (hNl : L.length ≤ 2147483647) (hL : L.drop q = l ++ more) (hjm : j + m ≤ l.length) (hM : q + l.length ≤ M) (hMb : M ≤ 4611686018427387904)
    (hd : Blk w gd ty (A ++ zs).toArray) (hA : A.length = od) (hz : m ≤ zs.length) (hm : m ≤ 2147483647) (hcd : m ≤ cd) (hD : gd ≠ r ∧ g ≠ gd ∧ g ≠ r ∧ t ≠ r ∧ t ≠ gd) :
    Calls Tryd.prog 56 #[.iface 140 (.pointer (some ⟨t, 0, none⟩)), .slice (some ⟨gd, od, none⟩) m cd, .int .i64 m] w (RlPost t r g o N c M q j gd m l A zs ty w) := by
  have hmr : ∀ W, (method 283 140 (.pointer (some ⟨t, 0, none⟩)) "Read").run Tryd.prog W = .ok (110, .pointer (some ⟨t, 0, none⟩)) W := fun _ => by kernel_rfl
  have hna : ∀ W, (nilAhead 283 140 (.pointer (some ⟨t, 0, none⟩)) "Read").run Tryd.prog W = .ok (some false) W := fun _ => by kernel_rfl
  have HX := Lib.hid (fun (h0 : 0 < m) => ltRead_ok t r g o N c M q j gd od m cd L l more A zs ty w.drew (h.drewN 1) (hc.drewN 1) hN hNc hNl hL h0 hjm hM hMb hd.drew hA hz hD)
  have H0 := Lib.hid (And.intro h hd)
  clear h hc hN hNc hNl hL hjm hM hMb hd hA hz hD
  go_enter Tryd.func56, Tryd.ntmps56
  go_wp2_with fail
  go_loopw [6, 7] (fun x e wr => e = .nilIface ∧ ((x = .int .i64 0 ∧ wr = w ∧ 0 < m) ∨ (x = .int .i64 m ∧ Lrq t r g o N c M q wr (j + m) ∧ Blk wr gd ty ((A ++ Lib.byteCells ((l.drop j).take m)) ++ zs.drop m).toArray ∧ ∀ B Ls, (r ∈ Ls ∨ B ≤ r) → (t ∈ Ls ∨ B ≤ t) → (gd ∈ Ls ∨ B ≤ gd) → Kb B Ls w wr)))
    (fun x _ _ => m - (intOf x).toNat)
  case atStart =>
    refine ⟨rfl, ?_⟩
    by_cases h0 : m = 0
    · subst h0
      exact .inr ⟨rfl, H0.out.1, by simpa [Lib.byteCells] using H0.out.2, fun B Ls _ _ _ => Kb.refl⟩
    · exact .inl ⟨rfl, rfl, by omega⟩
  case round =>
    obtain ⟨rfl, ⟨rfl, rfl, h0⟩ | ⟨rfl, hR, hB, hK⟩⟩ := hrel
    · have HR := Lib.hid (HX.out h0)
      go_wp2_with fail
      go_region_with (go_at_call 110; refine HR.out.mono ?_; rintro _ w1 ⟨rfl, hR1, hB1, hK1⟩)
      all_goals go_wp2_with fail
      exact ⟨⟨rfl, .inr ⟨rfl, hR1, hB1, fun B Ls h1 h2 h3 => (Kb.refl.drewN 1).trans (hK1 B Ls h1 h2 h3)⟩⟩, by simp [intOf]; omega⟩
    · go_wp2_with fail
      go_ret2
      exact ⟨rfl, hR, hB, hK⟩

set_option maxRecDepth 100000 in
set_option maxHeartbeats 2000000 in
theorem readFullL_ok (t r g o N c M q j gd od m cd : Nat) (L l more : List UInt8) (A zs : List Value) (ty : TypeId) (w : World) (h : Lrq t r g o N c M q w j) (hc : Bs w g o L) (hN : N = L.length) (hNc : N ≤ c) (hNl : L.length ≤ 2147483647) (hL : L.drop q = l ++ more) (hjm : j + m ≤ l.length) (hM : q + l.length ≤ M) (hMb : M ≤ 4611686018427387904)
    (hd : Blk w gd ty (A ++ zs).toArray) (hA : A.length = od) (hz : m ≤ zs.length) (hm : m ≤ 2147483647) (hcd : m ≤ cd) (hD : gd ≠ r ∧ g ≠ gd ∧ g ≠ r ∧ t ≠ r ∧ t ≠ gd) :
    Calls Tryd.prog 39 #[.iface 140 (.pointer (some ⟨t, 0, none⟩)), .slice (some ⟨gd, od, none⟩) m cd] w (RlPost t r g o N c M q j gd m l A zs ty w) := by
  have H := Lib.hid (readAtLeastL_ok t r g o N c M q j gd od m cd L l more A zs ty w h hc hN hNc hNl hL hjm hM hMb hd hA hz hm hcd hD)
  clear h hc hN hNc hNl hL hjm hM hMb hd hA hz hm hcd hD
  go_enter Tryd.func39, Tryd.ntmps39
  go_wp2_with fail
  refine H.out.mono ?_
  rintro e w1 ⟨rfl, hR, hB, hK⟩
  go_wp2_with fail
  go_ret2
  exact ⟨rfl, hR, hB, hK⟩

set_option maxRecDepth 100000 in
theorem limitReader_any (r m : Nat) (w : World) :
    Calls Tryd.prog 51 #[.iface 60 (.pointer (some ⟨r, 0, none⟩)), .int .i64 m] w fun e w' => e = .returned (.iface 140 (.pointer (some ⟨w.heap.size, 0, none⟩))) ∧ Blk w' w.heap.size 142 #[.iface 60 (.pointer (some ⟨r, 0, none⟩)), .int .i64 m] ∧ Below w.heap.size w w' := by
  go_enter Tryd.func51, Tryd.ntmps51
  go_wp2_with fail
  go_ret
  exact ⟨rfl, Blk.new _ _ _, Old.alloc (Below.refl _ _) _⟩
end Go.Proofs.YtaionnajhgjekaaDoor
