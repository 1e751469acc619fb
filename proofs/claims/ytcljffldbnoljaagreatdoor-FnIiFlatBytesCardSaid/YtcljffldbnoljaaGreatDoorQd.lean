/-
  sort.swapRange_func, rotate_func, insertionSort_func, whatever order they sort by: the very row that they leave. Conditions: as each contract says.
-/
import Derived.Test.YtcljffldbnoljaaGreatDoorJBase
import Derived.Test.YtcljffldbnoljaaGreatDoorJQa
namespace Go.Proofs.YtcljffldbnoljaaGreatDoor
open Go.RowKit Go.Sort
variable {α : Type} [Inhabited α]

/-- The two functions as the sort is handed them. -/
abbrev dataV (lp s1 s2 : Value) : Array Value := #[.func (.func 62) #[] #[lp], .func (.func 88) #[] #[s1, s2]]
/-- less, bound to lp, tells the order at every place of the row; the row stays. -/
def LessR (lp : Value) (n : Nat) (lt : α → α → Bool) (R : World → Array α → Prop) : Prop := ∀ W d, R W d → d.size = n → ∀ i j : Nat, i < n → j < n →
  Calls Tryz.prog 62 #[.int .i64 i, .int .i64 j, lp] W fun e w' => e = .returned (.bool (lt d[i]! d[j]!)) ∧ R w' d ∧ Below W.heap.size W w'
/-- swap, bound to s1 and s2, swaps at every place of the row; only block blk turns. -/
def SwapR (s1 s2 : Value) (blk n : Nat) (R : World → Array α → Prop) : Prop := ∀ W d, R W d → d.size = n → ∀ i j : Nat, i < n → j < n →
  ∃ W', (callFunc 88 #[.int .i64 i, .int .i64 j, s1, s2]).run Tryz.prog W = .ok (.value (.tuple #[])) W' ∧ R W' (swp d i j) ∧ Kp [blk] W W'
/-- What is new does not touch it. -/
def InvR (R : World → Array α → Prop) : Prop := ∀ W W' d, R W d → Below W.heap.size W W' → R W' d

theorem insOuter_step (lt : α → α → Bool) (a b i : Nat) (d : Array α) (h : i < b) : insOuter lt a b i d = insOuter lt a b (i + 1) (insInner lt a i d) := by
  conv => lhs; unfold insOuter
  rw [if_pos h]
theorem insOuter_end (lt : α → α → Bool) (a b i : Nat) (d : Array α) (h : ¬ i < b) : insOuter lt a b i d = d := by
  unfold insOuter
  rw [if_neg h]
theorem insInner_step (lt : α → α → Bool) (a j : Nat) (d : Array α) (h : a < j) (hl : lt d[j]! d[j - 1]! = true) : insInner lt a j d = insInner lt a (j - 1) (swp d j (j - 1)) := by
  cases j with
  | zero => omega
  | succ j => rw [insInner, if_pos (by rw [show lt d[j + 1]! d[j]! = true from hl]; simp; omega)]; rfl
theorem insInner_end (lt : α → α → Bool) (a j : Nat) (d : Array α) (h : a < j → lt d[j]! d[j - 1]! = false) : insInner lt a j d = d := by
  cases j with
  | zero => rfl
  | succ j =>
    rw [insInner, if_neg]
    intro hc
    simp only [gt_iff_lt, Bool.and_eq_true, decide_eq_true_eq] at hc
    have := h (by omega)
    rw [show j + 1 - 1 = j by omega, hc.2] at this
    cases this

set_option maxRecDepth 100000 in
set_option maxHeartbeats 2000000 in
theorem swapRange_eq (lp s1 s2 : Value) (blk n : Nat) (R : World → Array α → Prop) (hI : InvR R) (hS : SwapR s1 s2 blk n R) (a b k : Nat) (ha : a + k ≤ n) (hb : b + k ≤ n) (hn : n ≤ 1000) (w : World) (D : Array α) (h : R w D) (hD : D.size = n) (hblk : blk < w.heap.size) :
    Calls Tryz.prog 131 #[.agg (dataV lp s1 s2), .int .i64 a, .int .i64 b, .int .i64 k] w fun e w' => e = .returned (.tuple #[]) ∧ R w' (swpN D a b k) ∧ Kp [blk] w w' := by
  obtain ⟨d, hd⟩ : ∃ d, w.heap.size = d := ⟨_, rfl⟩
  obtain ⟨V, hV⟩ : ∃ V, w.alloc (.cells (dataV lp s1 s2) 152) = V := ⟨_, rfl⟩
  have bV : Below w.heap.size w V := by rw [← hV]; exact Old.alloc (Below.refl _ _) _
  have BV : Blk V d 152 (dataV lp s1 s2) := by rw [← hV, ← hd]; exact Blk.new _ _ _
  have HI := Lib.hid (And.intro (hI w V D h bV) (And.intro bV (And.intro BV hS)))
  have hdb : d ≠ blk := by omega
  clear h bV BV hS hI
  go_enter Tryz.func131, Tryz.ntmps131
  go_wp2_with fail
  clear hV hd
  go_loopw [8] (fun v wr => ∃ i : Nat, i ≤ k ∧ v = .int .i64 i ∧ R wr (swpN D a b i) ∧ Kp [blk] V wr) (fun v _ => k - (intOf v).toNat)
  case atStart => exact ⟨0, Nat.zero_le _, rfl, HI.out.1, Kp.refl _ _⟩
  case round =>
    obtain ⟨i, hi, rfl, hIn, hK⟩ := hrel
    by_cases hik : i < k
    · have hdd : decide ((i : Int) < (k : Int)) = true := by rw [decide_eq_true_eq]; omega
      have hB := HI.out.2.2.1.kp hK (by simpa using hdb)
      have c1 : wr.cell? ⟨d, 1, none⟩ = some (.func (.func 88) #[] #[s1, s2]) := hB.cell 1
      have hw1 : IntKind.i64.wrap ((a : Int) + (i : Int)) = (a : Int) + (i : Int) := by rw [IntKind.wrap_i64]; omega
      have hw2 : IntKind.i64.wrap ((b : Int) + (i : Int)) = (b : Int) + (i : Int) := by rw [IntKind.wrap_i64]; omega
      obtain ⟨W', hs, hI', hK'⟩ := HI.out.2.2.2 wr _ hIn ((swpN_size _ _ _ _).trans hD) (a + i) (b + i) (by omega) (by omega)
      rw [show ((a + i : Nat) : Int) = (a : Int) + (i : Int) by omega, show ((b + i : Nat) : Int) = (b : Int) + (i : Int) by omega] at hs
      have HX := Lib.hid (And.intro hI' (hK.trans hK'))
      have HS := Lib.hid hs
      clear hI' hK' hs hB hIn hK
      go_wp2_with fail
      rw [HS.out, Oper.upon_value]
      go_wp2_with fail
      go_roundw
      case rel =>
        exact ⟨i + 1, by omega, by go_num, HX.out.1, HX.out.2⟩
      case measure => simp [intOf]; omega
    · have hdd : decide ((i : Int) < (k : Int)) = false := by rw [decide_eq_false_iff_not]; omega
      have HX := Lib.hid (And.intro hIn ((Kp.of_below HI.out.2.1 [blk]).trans hK))
      clear hIn hK
      go_wp2_with fail
      go_end0
      rw [show i = k by omega] at HX
      exact ⟨rfl, HX.out⟩

set_option maxRecDepth 100000 in
set_option maxHeartbeats 2000000 in
theorem rotate_eq (lp s1 s2 : Value) (blk n : Nat) (R : World → Array α → Prop) (hI : InvR R) (hS : SwapR s1 s2 blk n R) (a m b : Nat) (ham : a < m) (hmb : m < b) (hb : b ≤ n) (hn : n ≤ 1000) (w : World) (D : Array α) (h : R w D) (hD : D.size = n) (hblk : blk < w.heap.size) :
    Calls Tryz.prog 123 #[.agg (dataV lp s1 s2), .int .i64 a, .int .i64 m, .int .i64 b] w fun e w' => e = .returned (.tuple #[]) ∧ (∃ D', R w' D' ∧ PermIn a b D D' ∧ RotOf D D' a m b) ∧ Kp [blk] w w' := by
  obtain ⟨d, hd⟩ : ∃ d, w.heap.size = d := ⟨_, rfl⟩
  obtain ⟨V, hV⟩ : ∃ V, w.alloc (.cells (dataV lp s1 s2) 152) = V := ⟨_, rfl⟩
  have bV : Below w.heap.size w V := by rw [← hV]; exact Old.alloc (Below.refl _ _) _
  have BV : Blk V d 152 (dataV lp s1 s2) := by rw [← hV, ← hd]; exact Blk.new _ _ _
  have HI := Lib.hid (And.intro (hI w V D h bV) (And.intro bV (And.intro BV (fun (W : World) (E : Array α) (hW : R W E) (hE : E.size = n) (hw : blk < W.heap.size) (x y k : Nat) (hx : x + k ≤ n) (hy : y + k ≤ n) => swapRange_eq lp s1 s2 blk n R hI hS x y k hx hy hn W E hW hE hw))))
  have hdb : d ≠ blk := by omega
  have hbV : blk < V.heap.size := Nat.lt_of_lt_of_le hblk bV.size
  clear h bV BV hS hI
  have hw1 : IntKind.i64.wrap ((m : Int) - (a : Int)) = ((m - a : Nat) : Int) := by rw [IntKind.wrap_i64]; omega
  have hw2 : IntKind.i64.wrap ((b : Int) - (m : Int)) = ((b - m : Nat) : Int) := by rw [IntKind.wrap_i64]; omega
  obtain ⟨i0, hi0⟩ : ∃ i0, m - a = i0 := ⟨_, rfl⟩
  obtain ⟨j0, hj0⟩ : ∃ j0, b - m = j0 := ⟨_, rfl⟩
  rw [hi0] at hw1
  rw [hj0] at hw2
  have HE := Lib.hid (And.intro hi0 hj0)
  clear hi0 hj0
  go_enter Tryz.func123, Tryz.ntmps123
  go_wp2_with fail
  clear hV hd
  go_loopw [8, 9] (fun x y wr => ∃ i j : Nat, 0 < i ∧ 0 < j ∧ i + a ≤ m ∧ j + m ≤ b ∧ x = .int .i64 i ∧ y = .int .i64 j ∧ (∃ E, R wr E ∧ Hid (PermIn a b D E ∧ ∀ D', RotOf E D' (m - i) m (m + j) → RotOf D D' a m b)) ∧ Kp [blk] V wr) (fun x y _ => (intOf x).toNat + (intOf y).toNat)
  case atStart => exact ⟨i0, j0, by have := HE.out; omega, by have := HE.out; omega, by have := HE.out; omega, by have := HE.out; omega, rfl, rfl, ⟨D, HI.out.1, Lib.hid ⟨permIn_refl _ _ _, fun D' h => by have e := HE.out; rw [show m - i0 = a by omega, show m + j0 = b by omega] at h; exact h⟩⟩, Kp.refl _ _⟩
  case round =>
    obtain ⟨i, j, hi, hj, him, hjb, rfl, rfl, ⟨E, hIn, hE⟩, hK⟩ := hrel
    have hEs : E.size = n := hE.out.1.1.trans hD
    have hEs2 := Lib.hid hEs
    have hB := HI.out.2.2.1.kp hK (by simpa using hdb)
    have c0 : wr.cell? ⟨d, 0, none⟩ = some (.func (.func 62) #[] #[lp]) := hB.cell 0
    have c1 : wr.cell? ⟨d, 1, none⟩ = some (.func (.func 88) #[] #[s1, s2]) := hB.cell 1
    have hmi : IntKind.i64.wrap ((m : Int) - (i : Int)) = ((m - i : Nat) : Int) := by rw [IntKind.wrap_i64]; omega
    have hbw : blk < wr.heap.size := Nat.lt_of_lt_of_le hbV hK.size
    obtain ⟨mi, hmi2⟩ : ∃ mi, m - i = mi := ⟨_, rfl⟩
    rw [hmi2] at hmi
    have HM := Lib.hid hmi2
    clear hmi2
    by_cases hij : i = j
    · subst hij
      have hrs := HI.out.2.2.2 wr E hIn hEs hbw mi m i (by have := HM.out; omega) (by omega)
      have HR := Lib.hid hrs
      have HX := Lib.hid ((Kp.of_below HI.out.2.1 [blk]).trans hK)
      clear hrs hB hIn hK hEs
      go_wp2_with fail
      refine HR.out.mono ?_
      rintro e w2 ⟨rfl, hI2, hK2⟩
      have HY := Lib.hid (And.intro hI2 (HX.out.trans hK2))
      clear hI2 hK2
      go_wp2_with fail
      go_end0
      refine ⟨rfl, ⟨_, HY.out.1, ?_, ?_⟩, HY.out.2⟩
      · rw [← HM.out]; exact permIn_trans _ _ _ _ _ hE.out.1 (swpN_perm _ _ _ _ _ _ (by omega) (by omega) (by omega) (by omega) (by have := hEs2.out; omega))
      · rw [← HM.out]; exact hE.out.2 _ (rot_end _ _ _ (by omega) (by have := hEs2.out; omega))
    · have hne : ((i : Int) == (j : Int)) = false := by rw [beq_eq_false_iff_ne]; omega
      have hijI : ¬ (i : Int) = (j : Int) := by omega
      by_cases hgt : j < i
      · have hdd : decide ((j : Int) < (i : Int)) = true := by rw [decide_eq_true_eq]; omega
        have hrs := HI.out.2.2.2 wr E hIn hEs hbw mi m j (by have := HM.out; omega) (by omega)
        have hij : IntKind.i64.wrap ((i : Int) - (j : Int)) = (i : Int) - (j : Int) := by rw [IntKind.wrap_i64]; omega
        have HR := Lib.hid hrs
        have HX := Lib.hid hK
        clear hrs hB hIn hK hEs
        go_wp2_with fail
        refine HR.out.mono ?_
        rintro e w2 ⟨rfl, hI2, hK2⟩
        have HY := Lib.hid (And.intro hI2 (HX.out.trans hK2))
        clear hI2 hK2
        go_wp2_with fail
        go_roundw
        case rel =>
          refine ⟨i - j, j, by omega, by omega, by omega, by omega, by congr 1; omega, rfl, ⟨_, HY.out.1, Lib.hid ⟨?_, fun D' h => hE.out.2 _ (rot_left _ _ _ _ _ hj hgt (by omega) (by have := hEs2.out; omega) (by rw [HM.out]; exact h))⟩⟩, HY.out.2⟩
          rw [← HM.out]; exact permIn_trans _ _ _ _ _ hE.out.1 (swpN_perm _ _ _ _ _ _ (by omega) (by omega) (by omega) (by omega) (by have := hEs2.out; omega))
        case measure => simp [intOf]; omega
      · have hdd : decide ((j : Int) < (i : Int)) = false := by rw [decide_eq_false_iff_not]; omega
        have hmj : IntKind.i64.wrap ((m : Int) + (j : Int)) = (m : Int) + (j : Int) := by rw [IntKind.wrap_i64]; omega
        have hmji : IntKind.i64.wrap ((m : Int) + (j : Int) - (i : Int)) = ((m + j - i : Nat) : Int) := by rw [IntKind.wrap_i64]; omega
        obtain ⟨mj, hmj2⟩ : ∃ mj, m + j - i = mj := ⟨_, rfl⟩
        rw [hmj2] at hmji
        have HJ := Lib.hid hmj2
        have hrs := HI.out.2.2.2 wr E hIn hEs hbw mi mj i (by have := HM.out; omega) (by omega)
        have hji : IntKind.i64.wrap ((j : Int) - (i : Int)) = (j : Int) - (i : Int) := by rw [IntKind.wrap_i64]; omega
        have HR := Lib.hid hrs
        have HX := Lib.hid hK
        clear hrs hB hIn hK hEs hmj2
        go_wp2_with fail
        refine HR.out.mono ?_
        rintro e w2 ⟨rfl, hI2, hK2⟩
        have HY := Lib.hid (And.intro hI2 (HX.out.trans hK2))
        clear hI2 hK2
        go_wp2_with fail
        go_roundw
        case rel =>
          refine ⟨i, j - i, by omega, by omega, by omega, by omega, rfl, by congr 1; omega, ⟨_, HY.out.1, Lib.hid ⟨?_, fun D' h => hE.out.2 _ (rot_right _ _ _ _ _ hi (by omega) (by omega) (by have := hEs2.out; omega) (by rw [HM.out] at h; rw [HM.out, HJ.out]; exact h))⟩⟩, HY.out.2⟩
          rw [← HM.out, ← HJ.out]; exact permIn_trans _ _ _ _ _ hE.out.1 (swpN_perm _ _ _ _ _ _ (by omega) (by omega) (by omega) (by omega) (by have := hEs2.out; omega))
        case measure => simp [intOf]; omega

set_option maxRecDepth 100000 in
set_option maxHeartbeats 2000000 in
theorem insertionSort_eq (lp s1 s2 : Value) (blk n : Nat) (R : World → Array α → Prop) (hI : InvR R) (hS : SwapR s1 s2 blk n R) (lt : α → α → Bool) (hL : LessR lp n lt R) (a b : Nat) (hab : a ≤ b) (hb : b ≤ n) (hn : n ≤ 1000) (w : World) (D : Array α) (h : R w D) (hD : D.size = n) (hblk : blk < w.heap.size) :
    Calls Tryz.prog 90 #[.agg (dataV lp s1 s2), .int .i64 a, .int .i64 b] w fun e w' => e = .returned (.tuple #[]) ∧ R w' (insertionSort lt D a b) ∧ Kp [blk] w w' := by
  obtain ⟨d, hd⟩ : ∃ d, w.heap.size = d := ⟨_, rfl⟩
  obtain ⟨V, hV⟩ : ∃ V, w.alloc (.cells (dataV lp s1 s2) 152) = V := ⟨_, rfl⟩
  have bV : Below w.heap.size w V := by rw [← hV]; exact Old.alloc (Below.refl _ _) _
  have BV : Blk V d 152 (dataV lp s1 s2) := by rw [← hV, ← hd]; exact Blk.new _ _ _
  have HI := Lib.hid (And.intro (hI w V D h bV) (And.intro bV (And.intro BV (And.intro hS hL))))
  have hdb : d ≠ blk := by omega
  have hbV : blk < V.heap.size := Nat.lt_of_lt_of_le hblk bV.size
  clear h bV BV hS hI hL
  have hw1 : IntKind.i64.wrap ((a : Int) + 1) = (a : Int) + 1 := by rw [IntKind.wrap_i64]; omega
  go_enter Tryz.func90, Tryz.ntmps90
  go_wp2_with fail
  clear hV hd
  go_loopw [6] (fun x wr => ∃ i : Nat, a < i ∧ i ≤ b + 1 ∧ x = .int .i64 i ∧ (∃ E, R wr E ∧ Hid (E.size = n ∧ insOuter lt a b i E = insertionSort lt D a b)) ∧ Kp [blk] V wr) (fun x _ => b + 1 - (intOf x).toNat)
  case atStart => exact ⟨a + 1, by omega, by omega, by go_num, ⟨D, HI.out.1, Lib.hid ⟨hD, rfl⟩⟩, Kp.refl _ _⟩
  case round =>
    obtain ⟨i, hai, hib, rfl, ⟨E, hIn, hE⟩, hK⟩ := hrel
    have hwi : IntKind.i64.wrap ((i : Int) + 1) = (i : Int) + 1 := by rw [IntKind.wrap_i64]; omega
    by_cases hlt : i < b
    · have hdd : decide ((i : Int) < (b : Int)) = true := by rw [decide_eq_true_eq]; omega
      have HX := Lib.hid (And.intro hIn hK)
      clear hIn hK
      go_wp2_with fail
      go_loopw [7] (fun y wr => ∃ j : Nat, a ≤ j ∧ j ≤ i ∧ y = .int .i64 j ∧ (∃ G, R wr G ∧ Hid (G.size = n ∧ insInner lt a j G = insInner lt a i E)) ∧ Kp [blk] V wr) (fun y _ => (intOf y).toNat)
      case atStart => exact ⟨i, by omega, Nat.le_refl _, rfl, ⟨E, HX.out.1, Lib.hid ⟨hE.out.1, rfl⟩⟩, HX.out.2⟩
      case round =>
        obtain ⟨j, haj, hji, rfl, ⟨G, hIn, hG⟩, hK⟩ := hrel
        have HO := Lib.hid (insOuter_step lt a b i E hlt)
        have hB := HI.out.2.2.1.kp hK (by simpa using hdb)
        have c0 : wr.cell? ⟨d, 0, none⟩ = some (.func (.func 62) #[] #[lp]) := hB.cell 0
        have hwj : IntKind.i64.wrap ((j : Int) - 1) = (j : Int) - 1 := by rw [IntKind.wrap_i64]; omega
        by_cases hja : a < j
        · have hdj : decide ((a : Int) < (j : Int)) = true := by rw [decide_eq_true_eq]; omega
          have hl := HI.out.2.2.2.2 wr G hIn hG.out.1 j (j - 1) (by omega) (by omega)
          rw [show (((j - 1 : Nat) : Int)) = (j : Int) - 1 by omega] at hl
          have HL := Lib.hid hl
          have HK := Lib.hid hK
          clear hl hIn hK hB
          go_wp2_with fail
          refine HL.out.mono ?_
          rintro e w3 ⟨rfl, hI3, b3⟩
          have hK3 := HK.out.old b3
          have hB3 := HI.out.2.2.1.kp hK3 (by simpa using hdb)
          have c1 : w3.cell? ⟨d, 1, none⟩ = some (.func (.func 88) #[] #[s1, s2]) := hB3.cell 1
          obtain ⟨W', hs, hI', hK'⟩ := HI.out.2.2.2.1 w3 G hI3 hG.out.1 j (j - 1) (by omega) (by omega)
          rw [show (((j - 1 : Nat) : Int)) = (j : Int) - 1 by omega] at hs
          have HS := Lib.hid hs
          have HY := Lib.hid (And.intro hI3 (And.intro hK3 (And.intro hI' (hK3.trans hK'))))
          clear hI3 b3 hK3 hB3 hs hI' hK' c0
          obtain ⟨bb, hbb⟩ : ∃ bb, lt G[j]! G[j - 1]! = bb := ⟨_, rfl⟩
          rw [hbb]
          have HB := Lib.hid hbb
          clear hbb
          cases bb
          · go_wp2_with fail
            go_roundw
            case rel =>
              refine ⟨i + 1, by omega, by omega, by go_num, ⟨G, HY.out.1, Lib.hid ⟨hG.out.1, ?_⟩⟩, HY.out.2.1⟩
              rw [← hE.out.2, HO.out, ← hG.out.2, insInner_end lt a j G (fun _ => HB.out)]
            case measure => simp [intOf]; omega
          · go_wp2_with fail
            rw [HS.out, Oper.upon_value]
            go_wp2_with fail
            go_roundw
            case rel =>
              refine ⟨j - 1, by omega, by omega, by congr 1; omega, ⟨_, HY.out.2.2.1, Lib.hid ⟨(swp_size _ _ _).trans hG.out.1, ?_⟩⟩, HY.out.2.2.2⟩
              rw [← hG.out.2, insInner_step lt a j G hja HB.out]
            case measure => simp [intOf]; omega
        · have hdj : decide ((a : Int) < (j : Int)) = false := by rw [decide_eq_false_iff_not]; omega
          have HY := Lib.hid (And.intro hIn hK)
          clear hIn hK hB
          go_wp2_with fail
          go_roundw
          case rel =>
            refine ⟨i + 1, by omega, by omega, by go_num, ⟨G, HY.out.1, Lib.hid ⟨hG.out.1, ?_⟩⟩, HY.out.2⟩
            rw [← hE.out.2, HO.out, ← hG.out.2, insInner_end lt a j G (fun hc => absurd hc hja)]
          case measure => simp [intOf]; omega
    · have hdd : decide ((i : Int) < (b : Int)) = false := by rw [decide_eq_false_iff_not]; omega
      have HX := Lib.hid (And.intro hIn ((Kp.of_below HI.out.2.1 [blk]).trans hK))
      clear hIn hK
      go_wp2_with fail
      go_end0
      refine ⟨rfl, ?_, HX.out.2⟩
      rw [← hE.out.2, insOuter_end lt a b i E hlt]
      exact HX.out.1
end Go.Proofs.YtcljffldbnoljaaGreatDoor
