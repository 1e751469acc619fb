/-
  sort.swapRange_func, rotate_func, insertionSort_func, whatever order they sort by: what they leave of the row. Conditions: as each contract says.
-/
import Derived.Test.YtlafdmmjbkdkaaaGreatDoorJBase
namespace Go.Proofs.YtlafdmmjbkdkaaaGreatDoor
open Go.RowKit

/-- less, bound to lp, answers at every place below n. -/
def LessOk (lp : Value) (n : Nat) (Inv : World → Prop) : Prop := ∀ W, Inv W → ∀ i j : Nat, i < n → j < n →
  Calls Tryz.prog 86 #[.int .i64 i, .int .i64 j, lp] W fun e w' => (∃ b, e = .returned (.bool b)) ∧ Inv w' ∧ Below W.heap.size W w'
/-- swap, bound to s1 and s2, swaps at every place below n; only block blk turns. -/
def SwapOk (s1 s2 : Value) (blk n : Nat) (Inv : World → Prop) : Prop := ∀ W, Inv W → ∀ i j : Nat, i < n → j < n →
  ∃ W', (callFunc 113 #[.int .i64 i, .int .i64 j, s1, s2]).run Tryz.prog W = .ok (.value (.tuple #[])) W' ∧ Inv W' ∧ Kp [blk] W W'
/-- What is new does not touch it. -/
def InvOk (Inv : World → Prop) : Prop := ∀ W W', Inv W → Below W.heap.size W W' → Inv W'
/-- The two functions as the sort is handed them. -/
abbrev dataV (lp s1 s2 : Value) : Array Value := #[.func (.func 86) #[] #[lp], .func (.func 113) #[] #[s1, s2]]

set_option maxRecDepth 100000 in
set_option maxHeartbeats 2000000 in
theorem swapRange_loose (lp s1 s2 : Value) (blk n : Nat) (Inv : World → Prop) (hI : InvOk Inv) (hS : SwapOk s1 s2 blk n Inv) (a b k : Nat) (ha : a + k ≤ n) (hb : b + k ≤ n) (hn : n ≤ 1000) (w : World) (h : Inv w) (hblk : blk < w.heap.size) :
    Calls Tryz.prog 173 #[.agg (dataV lp s1 s2), .int .i64 a, .int .i64 b, .int .i64 k] w fun e w' => e = .returned (.tuple #[]) ∧ Inv w' ∧ Kp [blk] w w' := by
  obtain ⟨d, hd⟩ : ∃ d, w.heap.size = d := ⟨_, rfl⟩
  obtain ⟨V, hV⟩ : ∃ V, w.alloc (.cells (dataV lp s1 s2) 180) = V := ⟨_, rfl⟩
  have bV : Below w.heap.size w V := by rw [← hV]; exact Old.alloc (Below.refl _ _) _
  have BV : Blk V d 180 (dataV lp s1 s2) := by rw [← hV, ← hd]; exact Blk.new _ _ _
  have HI := Lib.hid (And.intro (hI w V h bV) (And.intro bV (And.intro BV hS)))
  have hdb : d ≠ blk := by omega
  clear h bV BV hS hI
  go_enter Tryz.func173, Tryz.ntmps173
  go_wp2_with fail
  clear hV hd
  go_loopw [8] (fun v wr => ∃ i : Nat, i ≤ k ∧ v = .int .i64 i ∧ Inv wr ∧ Kp [blk] V wr) (fun v _ => k - (intOf v).toNat)
  case atStart => exact ⟨0, Nat.zero_le _, rfl, HI.out.1, Kp.refl _ _⟩
  case round =>
    obtain ⟨i, hi, rfl, hIn, hK⟩ := hrel
    by_cases hik : i < k
    · have hdd : decide ((i : Int) < (k : Int)) = true := by rw [decide_eq_true_eq]; omega
      have hB := HI.out.2.2.1.kp hK (by simpa using hdb)
      have c1 : wr.cell? ⟨d, 1, none⟩ = some (.func (.func 113) #[] #[s1, s2]) := hB.cell 1
      have hw1 : IntKind.i64.wrap ((a : Int) + (i : Int)) = (a : Int) + (i : Int) := by rw [IntKind.wrap_i64]; omega
      have hw2 : IntKind.i64.wrap ((b : Int) + (i : Int)) = (b : Int) + (i : Int) := by rw [IntKind.wrap_i64]; omega
      obtain ⟨W', hs, hI', hK'⟩ := HI.out.2.2.2 wr hIn (a + i) (b + i) (by omega) (by omega)
      rw [show ((a + i : Nat) : Int) = (a : Int) + (i : Int) by omega, show ((b + i : Nat) : Int) = (b : Int) + (i : Int) by omega] at hs
      have HX := Lib.hid (And.intro hI' (hK.trans hK'))
      have HS := Lib.hid hs
      clear hI' hK' hs hB hIn hK
      go_wp2_with fail
      rw [HS.out, Oper.upon_value]
      go_wp2_with fail
      go_roundw
      case rel =>
        exact ⟨i + 1, by omega, by go_num, HX.out.1, HX.out.2⟩
      case measure => simp [intOf]; omega
    · have hdd : decide ((i : Int) < (k : Int)) = false := by rw [decide_eq_false_iff_not]; omega
      have HX := Lib.hid (And.intro hIn ((Kp.of_below HI.out.2.1 [blk]).trans hK))
      clear hIn hK
      go_wp2_with fail
      go_end0
      exact ⟨rfl, HX.out⟩

set_option maxRecDepth 100000 in
set_option maxHeartbeats 2000000 in
theorem rotate_loose (lp s1 s2 : Value) (blk n : Nat) (Inv : World → Prop) (hI : InvOk Inv) (hS : SwapOk s1 s2 blk n Inv) (a m b : Nat) (ham : a < m) (hmb : m < b) (hb : b ≤ n) (hn : n ≤ 1000) (w : World) (h : Inv w) (hblk : blk < w.heap.size) :
    Calls Tryz.prog 154 #[.agg (dataV lp s1 s2), .int .i64 a, .int .i64 m, .int .i64 b] w fun e w' => e = .returned (.tuple #[]) ∧ Inv w' ∧ Kp [blk] w w' := by
  obtain ⟨d, hd⟩ : ∃ d, w.heap.size = d := ⟨_, rfl⟩
  obtain ⟨V, hV⟩ : ∃ V, w.alloc (.cells (dataV lp s1 s2) 180) = V := ⟨_, rfl⟩
  have bV : Below w.heap.size w V := by rw [← hV]; exact Old.alloc (Below.refl _ _) _
  have BV : Blk V d 180 (dataV lp s1 s2) := by rw [← hV, ← hd]; exact Blk.new _ _ _
  have HI := Lib.hid (And.intro (hI w V h bV) (And.intro bV (And.intro BV (fun (W : World) (hW : Inv W) (hw : blk < W.heap.size) (x y k : Nat) (hx : x + k ≤ n) (hy : y + k ≤ n) => swapRange_loose lp s1 s2 blk n Inv hI hS x y k hx hy hn W hW hw))))
  have hdb : d ≠ blk := by omega
  have hbV : blk < V.heap.size := Nat.lt_of_lt_of_le hblk bV.size
  clear h bV BV hS hI
  have hw1 : IntKind.i64.wrap ((m : Int) - (a : Int)) = ((m - a : Nat) : Int) := by rw [IntKind.wrap_i64]; omega
  have hw2 : IntKind.i64.wrap ((b : Int) - (m : Int)) = ((b - m : Nat) : Int) := by rw [IntKind.wrap_i64]; omega
  obtain ⟨i0, hi0⟩ : ∃ i0, m - a = i0 := ⟨_, rfl⟩
  obtain ⟨j0, hj0⟩ : ∃ j0, b - m = j0 := ⟨_, rfl⟩
  rw [hi0] at hw1
  rw [hj0] at hw2
  have HE := Lib.hid (And.intro hi0 hj0)
  clear hi0 hj0
  go_enter Tryz.func154, Tryz.ntmps154
  go_wp2_with fail
  clear hV hd
  go_loopw [8, 9] (fun x y wr => ∃ i j : Nat, 0 < i ∧ 0 < j ∧ i + a ≤ m ∧ j + m ≤ b ∧ x = .int .i64 i ∧ y = .int .i64 j ∧ Inv wr ∧ Kp [blk] V wr) (fun x y _ => (intOf x).toNat + (intOf y).toNat)
  case atStart => exact ⟨i0, j0, by have := HE.out; omega, by have := HE.out; omega, by have := HE.out; omega, by have := HE.out; omega, rfl, rfl, HI.out.1, Kp.refl _ _⟩
  case round =>
    obtain ⟨i, j, hi, hj, him, hjb, rfl, rfl, hIn, hK⟩ := hrel
    have hB := HI.out.2.2.1.kp hK (by simpa using hdb)
    have c0 : wr.cell? ⟨d, 0, none⟩ = some (.func (.func 86) #[] #[lp]) := hB.cell 0
    have c1 : wr.cell? ⟨d, 1, none⟩ = some (.func (.func 113) #[] #[s1, s2]) := hB.cell 1
    have hmi : IntKind.i64.wrap ((m : Int) - (i : Int)) = ((m - i : Nat) : Int) := by rw [IntKind.wrap_i64]; omega
    have hbw : blk < wr.heap.size := Nat.lt_of_lt_of_le hbV hK.size
    obtain ⟨mi, hmi2⟩ : ∃ mi, m - i = mi := ⟨_, rfl⟩
    rw [hmi2] at hmi
    have HM := Lib.hid hmi2
    clear hmi2
    by_cases hij : i = j
    · subst hij
      have hrs := HI.out.2.2.2 wr hIn hbw mi m i (by have := HM.out; omega) (by omega)
      have HR := Lib.hid hrs
      have HX := Lib.hid ((Kp.of_below HI.out.2.1 [blk]).trans hK)
      clear hrs hB hIn hK
      go_wp2_with fail
      refine HR.out.mono ?_
      rintro e w2 ⟨rfl, hI2, hK2⟩
      have HY := Lib.hid (And.intro hI2 (HX.out.trans hK2))
      clear hI2 hK2
      go_wp2_with fail
      go_end0
      exact ⟨rfl, HY.out⟩
    · have hne : ((i : Int) == (j : Int)) = false := by rw [beq_eq_false_iff_ne]; omega
      have hijI : ¬ (i : Int) = (j : Int) := by omega
      by_cases hgt : j < i
      · have hdd : decide ((j : Int) < (i : Int)) = true := by rw [decide_eq_true_eq]; omega
        have hrs := HI.out.2.2.2 wr hIn hbw mi m j (by have := HM.out; omega) (by omega)
        have hij : IntKind.i64.wrap ((i : Int) - (j : Int)) = (i : Int) - (j : Int) := by rw [IntKind.wrap_i64]; omega
        have HR := Lib.hid hrs
        have HX := Lib.hid hK
        clear hrs hB hIn hK
        go_wp2_with fail
        refine HR.out.mono ?_
        rintro e w2 ⟨rfl, hI2, hK2⟩
        have HY := Lib.hid (And.intro hI2 (HX.out.trans hK2))
        clear hI2 hK2
        go_wp2_with fail
        go_roundw
        case rel => exact ⟨i - j, j, by omega, by omega, by omega, by omega, by congr 1; omega, rfl, HY.out.1, HY.out.2⟩
        case measure => simp [intOf]; omega
      · have hdd : decide ((j : Int) < (i : Int)) = false := by rw [decide_eq_false_iff_not]; omega
        have hmj : IntKind.i64.wrap ((m : Int) + (j : Int)) = (m : Int) + (j : Int) := by rw [IntKind.wrap_i64]; omega
        have hmji : IntKind.i64.wrap ((m : Int) + (j : Int) - (i : Int)) = ((m + j - i : Nat) : Int) := by rw [IntKind.wrap_i64]; omega
        obtain ⟨mj, hmj2⟩ : ∃ mj, m + j - i = mj := ⟨_, rfl⟩
        rw [hmj2] at hmji
        have hrs := HI.out.2.2.2 wr hIn hbw mi mj i (by have := HM.out; omega) (by omega)
        have hji : IntKind.i64.wrap ((j : Int) - (i : Int)) = (j : Int) - (i : Int) := by rw [IntKind.wrap_i64]; omega
        have HR := Lib.hid hrs
        have HX := Lib.hid hK
        clear hrs hB hIn hK hmj2
        go_wp2_with fail
        refine HR.out.mono ?_
        rintro e w2 ⟨rfl, hI2, hK2⟩
        have HY := Lib.hid (And.intro hI2 (HX.out.trans hK2))
        clear hI2 hK2
        go_wp2_with fail
        go_roundw
        case rel => exact ⟨i, j - i, by omega, by omega, by omega, by omega, rfl, by congr 1; omega, HY.out.1, HY.out.2⟩
        case measure => simp [intOf]; omega

set_option maxRecDepth 100000 in
set_option maxHeartbeats 2000000 in
theorem insertionSort_loose (lp s1 s2 : Value) (blk n : Nat) (Inv : World → Prop) (hI : InvOk Inv) (hS : SwapOk s1 s2 blk n Inv) (hL : LessOk lp n Inv) (a b : Nat) (hab : a ≤ b) (hb : b ≤ n) (hn : n ≤ 1000) (w : World) (h : Inv w) (hblk : blk < w.heap.size) :
    Calls Tryz.prog 116 #[.agg (dataV lp s1 s2), .int .i64 a, .int .i64 b] w fun e w' => e = .returned (.tuple #[]) ∧ Inv w' ∧ Kp [blk] w w' := by
  obtain ⟨d, hd⟩ : ∃ d, w.heap.size = d := ⟨_, rfl⟩
  obtain ⟨V, hV⟩ : ∃ V, w.alloc (.cells (dataV lp s1 s2) 180) = V := ⟨_, rfl⟩
  have bV : Below w.heap.size w V := by rw [← hV]; exact Old.alloc (Below.refl _ _) _
  have BV : Blk V d 180 (dataV lp s1 s2) := by rw [← hV, ← hd]; exact Blk.new _ _ _
  have HI := Lib.hid (And.intro (hI w V h bV) (And.intro bV (And.intro BV (And.intro hS hL))))
  have hdb : d ≠ blk := by omega
  have hbV : blk < V.heap.size := Nat.lt_of_lt_of_le hblk bV.size
  clear h bV BV hS hI hL
  have hw1 : IntKind.i64.wrap ((a : Int) + 1) = (a : Int) + 1 := by rw [IntKind.wrap_i64]; omega
  go_enter Tryz.func116, Tryz.ntmps116
  go_wp2_with fail
  clear hV hd
  go_loopw [6] (fun x wr => ∃ i : Nat, a < i ∧ i ≤ b + 1 ∧ x = .int .i64 i ∧ Inv wr ∧ Kp [blk] V wr) (fun x _ => b + 1 - (intOf x).toNat)
  case atStart => exact ⟨a + 1, by omega, by omega, by go_num, HI.out.1, Kp.refl _ _⟩
  case round =>
    obtain ⟨i, hai, hib, rfl, hIn, hK⟩ := hrel
    have hwi : IntKind.i64.wrap ((i : Int) + 1) = (i : Int) + 1 := by rw [IntKind.wrap_i64]; omega
    by_cases hlt : i < b
    · have hdd : decide ((i : Int) < (b : Int)) = true := by rw [decide_eq_true_eq]; omega
      have HX := Lib.hid (And.intro hIn hK)
      clear hIn hK
      go_wp2_with fail
      go_loopw [7] (fun y wr => ∃ j : Nat, a ≤ j ∧ j ≤ i ∧ y = .int .i64 j ∧ Inv wr ∧ Kp [blk] V wr) (fun y _ => (intOf y).toNat)
      case atStart => exact ⟨i, by omega, Nat.le_refl _, rfl, HX.out.1, HX.out.2⟩
      case round =>
        obtain ⟨j, haj, hji, rfl, hIn, hK⟩ := hrel
        have hB := HI.out.2.2.1.kp hK (by simpa using hdb)
        have c0 : wr.cell? ⟨d, 0, none⟩ = some (.func (.func 86) #[] #[lp]) := hB.cell 0
        have hwj : IntKind.i64.wrap ((j : Int) - 1) = (j : Int) - 1 := by rw [IntKind.wrap_i64]; omega
        by_cases hja : a < j
        · have hdj : decide ((a : Int) < (j : Int)) = true := by rw [decide_eq_true_eq]; omega
          have hl := HI.out.2.2.2.2 wr hIn j (j - 1) (by omega) (by omega)
          rw [show (((j - 1 : Nat) : Int)) = (j : Int) - 1 by omega] at hl
          have HL := Lib.hid hl
          have HK := Lib.hid hK
          clear hl hIn hK hB
          go_wp2_with fail
          refine HL.out.mono ?_
          rintro e w3 ⟨⟨bb, rfl⟩, hI3, b3⟩
          have hK3 := HK.out.old b3
          have hB3 := HI.out.2.2.1.kp hK3 (by simpa using hdb)
          have c1 : w3.cell? ⟨d, 1, none⟩ = some (.func (.func 113) #[] #[s1, s2]) := hB3.cell 1
          obtain ⟨W', hs, hI', hK'⟩ := HI.out.2.2.2.1 w3 hI3 j (j - 1) (by omega) (by omega)
          rw [show (((j - 1 : Nat) : Int)) = (j : Int) - 1 by omega] at hs
          have HS := Lib.hid hs
          have HY := Lib.hid (And.intro hI3 (And.intro hK3 (And.intro hI' (hK3.trans hK'))))
          clear hI3 b3 hK3 hB3 hs hI' hK' c0
          cases bb
          · go_wp2_with fail
            go_roundw
            case rel => exact ⟨i + 1, by omega, by omega, by go_num, HY.out.1, HY.out.2.1⟩
            case measure => simp [intOf]; omega
          · go_wp2_with fail
            rw [HS.out, Oper.upon_value]
            go_wp2_with fail
            go_roundw
            case rel => exact ⟨j - 1, by omega, by omega, by congr 1; omega, HY.out.2.2.1, HY.out.2.2.2⟩
            case measure => simp [intOf]; omega
        · have hdj : decide ((a : Int) < (j : Int)) = false := by rw [decide_eq_false_iff_not]; omega
          have HY := Lib.hid (And.intro hIn hK)
          clear hIn hK hB
          go_wp2_with fail
          go_roundw
          case rel => exact ⟨i + 1, by omega, by omega, by go_num, HY.out.1, HY.out.2⟩
          case measure => simp [intOf]; omega
    · have hdd : decide ((i : Int) < (b : Int)) = false := by rw [decide_eq_false_iff_not]; omega
      have HX := Lib.hid (And.intro hIn ((Kp.of_below HI.out.2.1 [blk]).trans hK))
      clear hIn hK
      go_wp2_with fail
      go_end0
      exact ⟨rfl, HX.out⟩
end Go.Proofs.YtlafdmmjbkdkaaaGreatDoor
