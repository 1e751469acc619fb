/-
  sort.symMerge_func, whatever order it merges by: two sorted runs become one. Conditions: as the contract says.
-/
import Derived.Test.YtcljffldbnoljaaGreatDoorQd
namespace Go.Proofs.YtcljffldbnoljaaGreatDoor
open Go.RowKit Go.Sort
variable {α : Type} [Inhabited α]

theorem rot_up {D E : Array α} {a k : Nat} (hak : a ≤ k) (hk : k + 1 < D.size) (h : RotOf D E a (a + 1) (k + 1)) : RotOf D (swp E k (k + 1)) a (a + 1) (k + 2) := by
  refine ⟨(swp_size _ _ _).trans h.1, fun x => ?_⟩
  rw [swp_get _ (by rw [h.1]; omega) (by rw [h.1]; omega), h.2 x, h.2 k, h.2 (k + 1)]
  by_cases c1 : x = k + 1
  · subst c1
    rw [if_pos rfl, if_neg (show ¬ k < a by omega), if_neg (show ¬ k < a + (k + 1 - (a + 1)) by omega), if_pos (show k < k + 1 by omega), if_neg (show ¬ k + 1 < a by omega), if_neg (show ¬ k + 1 < a + (k + 2 - (a + 1)) by omega), if_pos (show k + 1 < k + 2 by omega)]
    congr 1; omega
  · rw [if_neg c1]
    by_cases c2 : x = k
    · subst c2
      rw [if_pos rfl, if_neg (show ¬ x + 1 < a by omega), if_neg (show ¬ x + 1 < a + (x + 1 - (a + 1)) by omega), if_neg (show ¬ x + 1 < x + 1 by omega), if_neg (show ¬ x < a by omega), if_pos (show x < a + (x + 2 - (a + 1)) by omega)]
      congr 1; omega
    · rw [if_neg c2]
      by_cases c3 : x < a
      · rw [if_pos c3, if_pos c3]
      · rw [if_neg c3, if_neg c3]
        by_cases c4 : x < a + (k + 1 - (a + 1))
        · rw [if_pos c4, if_pos (by omega)]
        · rw [if_neg c4, if_neg (show ¬ x < k + 1 by omega), if_neg (by omega), if_neg (by omega)]

theorem rot_down {D E : Array α} {m k : Nat} (hk : 0 < k) (hkm : k ≤ m) (hm : m < D.size) (h : RotOf D E k m (m + 1)) : RotOf D (swp E k (k - 1)) (k - 1) m (m + 1) := by
  refine ⟨(swp_size _ _ _).trans h.1, fun x => ?_⟩
  rw [swp_get _ (by rw [h.1]; omega) (by rw [h.1]; omega), h.2 x, h.2 k, h.2 (k - 1)]
  by_cases c1 : x = k - 1
  · subst c1
    rw [if_pos rfl, if_neg (show ¬ k < k by omega), if_pos (show k < k + (m + 1 - m) by omega), if_neg (show ¬ k - 1 < k - 1 by omega), if_pos (show k - 1 < k - 1 + (m + 1 - m) by omega)]
    congr 1; omega
  · rw [if_neg c1]
    by_cases c2 : x = k
    · subst c2
      rw [if_pos rfl, if_pos (show x - 1 < x by omega), if_neg (show ¬ x < x - 1 by omega), if_neg (show ¬ x < x - 1 + (m + 1 - m) by omega), if_pos (show x < m + 1 by omega)]
      congr 1; omega
    · rw [if_neg c2]
      by_cases c3 : x < k - 1
      · rw [if_pos (show x < k by omega), if_pos c3]
      · rw [if_neg (show ¬ x < k by omega), if_neg c3, if_neg (show ¬ x < k + (m + 1 - m) by omega), if_neg (show ¬ x < k - 1 + (m + 1 - m) by omega)]

theorem sorted_join {lt : α → α → Bool} {a i b : Nat} {d : Array α} (h : a = i ∨ i = b) (h1 : SortedIn lt a i d) (h2 : SortedIn lt i b d) : SortedIn lt a b d := by
  rcases h with rfl | rfl
  · exact h2
  · exact h1

theorem g_skip2 {lt : α → α → Bool} {R : World → Array α → Prop} {w : World} {X : Array α} {a b : Nat} (_h : R w X) (S : SortedIn lt a b X) : PermIn a b X X ∧ SortedIn lt a b X := ⟨permIn_refl _ _ _, S⟩
theorem g_skip3 {lt : α → α → Bool} {R : World → Array α → Prop} {w : World} {X Y : Array α} {a mid b : Nat} (_h : R w Y) (hP : PermIn a mid X Y) (S : SortedIn lt mid b X) : PermIn mid b Y Y ∧ SortedIn lt mid b Y :=
  ⟨permIn_refl _ _ _, SortedIn.congr S fun z hz _ => hP.2.1 z (Or.inr hz)⟩

/-- What merging leaves: the rows of [a, b) in order. -/
def Merged (lt : α → α → Bool) (a b : Nat) (D : Array α) (R : World → Array α → Prop) (w : World) : Prop := ∃ D', R w D' ∧ PermIn a b D D' ∧ SortedIn lt a b D'

/-- Behind the rotation and the two parts merged. -/
theorem merge_end {lt : α → α → Bool} (hO : SWO lt) {a s m e b mid n : Nat} {D D1 : Array α} (hD : D.size = n) (hb : b ≤ n) (has : a ≤ s) (hsm : s ≤ m) (hme : m ≤ e) (heb : e ≤ b) (hmid : s + e = mid + m)
    (S1 : SortedIn lt a m D) (S2 : SortedIn lt m b D) (h1 : a < s → e < b → lt D[e]! D[s - 1]! = false) (h2 : s < m → m < e → lt D[e - 1]! D[s]! = true) (P : PermIn a b D D1) (hR : RotOf D D1 s m e)
    {D2 D3 : Array α} (P1 : PermIn a mid D1 D2) (Q1 : SortedIn lt a mid D2) (P2 : PermIn mid b D2 D3) (Q2 : SortedIn lt mid b D3) : PermIn a b D D3 ∧ SortedIn lt a b D3 := by
  have hs1 := P.1
  obtain ⟨p, q⟩ := glue2 (lt := lt) (a := a) (mid := mid) (b := b) (d := D1) (d1 := D2) (d2 := D3) (by omega) (by omega) (by omega)
    (fun x y hx hxm hy hyb => rot_cross hO has hsm hme heb S1 S2 h1 h2 hR x y hx (by omega) (by omega) hyb) P1 Q1 P2 Q2
  exact ⟨permIn_trans _ _ _ _ _ P p, q⟩

set_option maxRecDepth 100000 in
set_option maxHeartbeats 16000000 in
theorem symMerge_eq (lp s1 s2 : Value) (blk n : Nat) (R : World → Array α → Prop) (hI : InvR R) (hS : SwapR s1 s2 blk n R) (lt : α → α → Bool) (hO : SWO lt) (hL : LessR lp n lt R) (hn : n ≤ 1000) : ∀ (q a m b : Nat), a < m → m < b → b ≤ n → b - a ≤ q → ∀ w D, R w D → D.size = n → SortedIn lt a m D → SortedIn lt m b D → blk < w.heap.size →
    Calls Tryz.prog 107 #[.agg (dataV lp s1 s2), .int .i64 a, .int .i64 m, .int .i64 b] w fun e w' => e = .returned (.tuple #[]) ∧ Merged lt a b D R w' ∧ Kp [blk] w w' := by
  intro q
  induction q with
  | zero => intro a m b h1 h2 h3 h4; omega
  | succ q ih =>
  intro a m b ham hmb hb hq w D h hD S1 S2 hblk
  obtain ⟨d, hd⟩ : ∃ d, w.heap.size = d := ⟨_, rfl⟩
  obtain ⟨V, hV⟩ : ∃ V, w.alloc (.cells (dataV lp s1 s2) 152) = V := ⟨_, rfl⟩
  have bV : Below w.heap.size w V := by rw [← hV]; exact Old.alloc (Below.refl _ _) _
  have BV : Blk V d 152 (dataV lp s1 s2) := by rw [← hV, ← hd]; exact Blk.new _ _ _
  have hdb : d ≠ blk := by omega
  have hdb' : d ∉ [blk] := by simpa using hdb
  have hbV : blk < V.heap.size := Nat.lt_of_lt_of_le hblk bV.size
  have HI := Lib.hid (And.intro (hI w V D h bV) (And.intro bV (And.intro BV (And.intro hS (And.intro hL hI)))))
  have IH := Lib.hid ih
  have HD := Lib.hid (And.intro hD (And.intro S1 S2))
  clear h bV BV ih hD S1 S2
  by_cases h1 : m - a = 1
  · have hma : IntKind.i64.wrap ((m : Int) - (a : Int)) = 1 := by rw [IntKind.wrap_i64]; omega
    go_enter Tryz.func107, Tryz.ntmps107
    go_wp2_with fail
    clear hV hd hma
    go_loopw [8, 9] (fun x y wr => ∃ i j : Nat, m ≤ i ∧ i ≤ j ∧ j ≤ b ∧ x = .int .i64 i ∧ y = .int .i64 j ∧ R wr D ∧ Hid ((m < i → lt D[i - 1]! D[a]! = true) ∧ (j < b → lt D[j]! D[a]! = false)) ∧ Kp [blk] V wr) (fun x y _ => (intOf y).toNat - (intOf x).toNat)
    case atStart => exact ⟨m, b, Nat.le_refl _, by omega, Nat.le_refl _, rfl, rfl, HI.out.1, Lib.hid ⟨fun h => absurd h (Nat.lt_irrefl _), fun h => absurd h (Nat.lt_irrefl _)⟩, Kp.refl _ _⟩
    case round =>
      obtain ⟨i, j, hmi, hij, hjb, rfl, rfl, hIn, hBd, hK⟩ := hrel
      by_cases hlt : i < j
      · have hdd : decide ((i : Int) < (j : Int)) = true := by rw [decide_eq_true_eq]; omega
        obtain ⟨hh, hhe⟩ : ∃ hh : Nat, (i + j) / 2 = hh := ⟨_, rfl⟩
        have hdiv : ((i : Int) + (j : Int)) / 2 = (hh : Int) := by omega
        have hwh : IntKind.i64.wrap ((hh : Int) + 1) = (hh : Int) + 1 := by rw [IntKind.wrap_i64]; omega
        have hhb : i ≤ hh ∧ hh < j := by omega
        clear hhe
        have hB := HI.out.2.2.1.kp hK hdb'
        have c0 : wr.cell? ⟨d, 0, none⟩ = some (.func (.func 62) #[] #[lp]) := hB.cell 0
        have hl := HI.out.2.2.2.2.1 wr D hIn HD.out.1 hh a (by omega) (by omega)
        have HL := Lib.hid hl
        have HK := Lib.hid hK
        clear hl hIn hK hB
        go_wp2_with fail
        refine HL.out.mono ?_
        rintro e w3 ⟨rfl, hI3, b3⟩
        have HY := Lib.hid (And.intro hI3 (HK.out.old b3))
        obtain ⟨bb, hbb⟩ : ∃ bb, lt D[hh]! D[a]! = bb := ⟨_, rfl⟩
        rw [hbb]
        have HB := Lib.hid hbb
        clear hI3 b3 c0 hbb
        cases bb
        · go_wp2_with fail
          go_roundw
          case rel => exact ⟨i, hh, hmi, by omega, by omega, rfl, rfl, HY.out.1, Lib.hid ⟨hBd.out.1, fun _ => HB.out⟩, HY.out.2⟩
          case measure => simp [intOf]; omega
        · go_wp2_with fail
          go_roundw
          case rel => exact ⟨hh + 1, j, by omega, by omega, hjb, by go_num, rfl, HY.out.1, Lib.hid ⟨fun _ => HB.out, hBd.out.2⟩, HY.out.2⟩
          case measure => simp [intOf]; omega
      · have hdd : decide ((i : Int) < (j : Int)) = false := by rw [decide_eq_false_iff_not]; omega
        have HY := Lib.hid (And.intro hIn hK)
        have hij2 : i = j := by omega
        subst hij2
        clear hIn hK
        go_wp2_with fail
        clear hdd
        go_loopw [11] (fun x wr => ∃ k : Nat, a ≤ k ∧ k + 1 ≤ i ∧ x = .int .i64 k ∧ (∃ E, R wr E ∧ Hid (PermIn a b D E ∧ RotOf D E a (a + 1) (k + 1))) ∧ Kp [blk] V wr) (fun x _ => i - (intOf x).toNat)
        case atStart => exact ⟨a, Nat.le_refl _, by omega, rfl, ⟨D, HY.out.1, Lib.hid ⟨permIn_refl _ _ _, rot_id _ _ _ _ (by omega) (by omega) (Or.inr rfl)⟩⟩, HY.out.2⟩
        case round =>
          clear HY
          obtain ⟨k, hak, hki, rfl, ⟨E, hIn, hE⟩, hK⟩ := hrel
          have hwi : IntKind.i64.wrap ((i : Int) - 1) = (i : Int) - 1 := by rw [IntKind.wrap_i64]; omega
          have hwk : IntKind.i64.wrap ((k : Int) + 1) = (k : Int) + 1 := by rw [IntKind.wrap_i64]; omega
          by_cases hlt2 : k + 1 < i
          · have hdd : decide ((k : Int) < (i : Int) - 1) = true := by rw [decide_eq_true_eq]; omega
            have hB := HI.out.2.2.1.kp hK hdb'
            have c1 : wr.cell? ⟨d, 1, none⟩ = some (.func (.func 88) #[] #[s1, s2]) := hB.cell 1
            obtain ⟨W', hs, hI', hK'⟩ := HI.out.2.2.2.1 wr E hIn (hE.out.1.1.trans HD.out.1) k (k + 1) (by omega) (by omega)
            rw [show ((k + 1 : Nat) : Int) = (k : Int) + 1 by omega] at hs
            have HSw := Lib.hid hs
            have HY := Lib.hid (And.intro hI' (hK.trans hK'))
            clear hs hI' hK' hIn hK hB
            go_wp2_with fail
            rw [HSw.out, Oper.upon_value]
            go_wp2_with fail
            go_roundw
            case rel => exact ⟨k + 1, by omega, by omega, by go_num, ⟨_, HY.out.1, Lib.hid ⟨permIn_trans _ _ _ _ _ hE.out.1 (swp_permIn _ _ _ _ _ (by omega) (by omega) (by omega) (by omega) (by have e1 := hE.out.1.1; have e2 := HD.out.1; omega)), rot_up hak (by have e2 := HD.out.1; omega) hE.out.2⟩⟩, HY.out.2⟩
            case measure => simp [intOf]; omega
          · have hdd : decide ((k : Int) < (i : Int) - 1) = false := by rw [decide_eq_false_iff_not]; omega
            have HY := Lib.hid (And.intro hIn hK)
            clear hIn hK
            go_wp2_with fail
            refine bodyPost_ret (results_none rfl _ _ _) rfl ?_
            refine ⟨rfl, ⟨E, HY.out.1, hE.out.1, ?_⟩, (Kp.of_below HI.out.2.1 [blk]).trans HY.out.2⟩
            have hR := hE.out.2
            have S2 := HD.out.2.2
            rw [show k + 1 = i by omega] at hR
            rw [show m = a + 1 by omega] at S2
            exact rot_first hO (by omega) (by omega) S2 (fun h => hBd.out.1 (by omega)) hBd.out.2 hR
  obtain ⟨ma, hmae⟩ : ∃ ma : Nat, m - a = ma := ⟨_, rfl⟩
  have hma : IntKind.i64.wrap ((m : Int) - (a : Int)) = (ma : Int) := by rw [IntKind.wrap_i64]; omega
  have hma1 : ¬ ma = 1 := by omega
  have hma2 : ((ma : Int) == 1) = false := by rw [beq_eq_false_iff_ne]; omega
  clear hmae
  by_cases h2 : b - m = 1
  · have hbm : IntKind.i64.wrap ((b : Int) - (m : Int)) = 1 := by rw [IntKind.wrap_i64]; omega
    go_enter Tryz.func107, Tryz.ntmps107
    go_wp2_with fail
    clear hV hd hma hbm
    go_loopw [12, 13] (fun x y wr => ∃ i j : Nat, a ≤ i ∧ i ≤ j ∧ j ≤ m ∧ x = .int .i64 i ∧ y = .int .i64 j ∧ R wr D ∧ Hid ((a < i → lt D[m]! D[i - 1]! = false) ∧ (j < m → lt D[m]! D[j]! = true)) ∧ Kp [blk] V wr) (fun x y _ => (intOf y).toNat - (intOf x).toNat)
    case atStart => exact ⟨a, m, Nat.le_refl _, by omega, Nat.le_refl _, rfl, rfl, HI.out.1, Lib.hid ⟨fun h => absurd h (Nat.lt_irrefl _), fun h => absurd h (Nat.lt_irrefl _)⟩, Kp.refl _ _⟩
    case round =>
      obtain ⟨i, j, hmi, hij, hjb, rfl, rfl, hIn, hBd, hK⟩ := hrel
      by_cases hlt : i < j
      · have hdd : decide ((i : Int) < (j : Int)) = true := by rw [decide_eq_true_eq]; omega
        obtain ⟨hh, hhe⟩ : ∃ hh : Nat, (i + j) / 2 = hh := ⟨_, rfl⟩
        have hdiv : ((i : Int) + (j : Int)) / 2 = (hh : Int) := by omega
        have hwh : IntKind.i64.wrap ((hh : Int) + 1) = (hh : Int) + 1 := by rw [IntKind.wrap_i64]; omega
        have hhb : i ≤ hh ∧ hh < j := by omega
        clear hhe
        have hB := HI.out.2.2.1.kp hK hdb'
        have c0 : wr.cell? ⟨d, 0, none⟩ = some (.func (.func 62) #[] #[lp]) := hB.cell 0
        have hl := HI.out.2.2.2.2.1 wr D hIn HD.out.1 m hh (by omega) (by omega)
        have HL := Lib.hid hl
        have HK := Lib.hid hK
        clear hl hIn hK hB
        go_wp2_with fail
        refine HL.out.mono ?_
        rintro e w3 ⟨rfl, hI3, b3⟩
        have HY := Lib.hid (And.intro hI3 (HK.out.old b3))
        obtain ⟨bb, hbb⟩ : ∃ bb, lt D[m]! D[hh]! = bb := ⟨_, rfl⟩
        rw [hbb]
        have HB := Lib.hid hbb
        clear hI3 b3 c0 hbb
        cases bb
        · go_wp2_with fail
          go_roundw
          case rel => exact ⟨hh + 1, j, by omega, by omega, hjb, by go_num, rfl, HY.out.1, Lib.hid ⟨fun _ => HB.out, hBd.out.2⟩, HY.out.2⟩
          case measure => simp [intOf]; omega
        · go_wp2_with fail
          go_roundw
          case rel => exact ⟨i, hh, hmi, by omega, by omega, rfl, rfl, HY.out.1, Lib.hid ⟨hBd.out.1, fun _ => HB.out⟩, HY.out.2⟩
          case measure => simp [intOf]; omega
      · have hdd : decide ((i : Int) < (j : Int)) = false := by rw [decide_eq_false_iff_not]; omega
        have HY := Lib.hid (And.intro hIn hK)
        have hij2 : i = j := by omega
        subst hij2
        clear hIn hK
        go_wp2_with fail
        clear hdd
        go_loopw [15] (fun x wr => ∃ k : Nat, i ≤ k ∧ k ≤ m ∧ x = .int .i64 k ∧ (∃ E, R wr E ∧ Hid (PermIn a b D E ∧ RotOf D E k m (m + 1))) ∧ Kp [blk] V wr) (fun x _ => (intOf x).toNat)
        case atStart => exact ⟨m, by omega, Nat.le_refl _, rfl, ⟨D, HY.out.1, Lib.hid ⟨permIn_refl _ _ _, rot_id _ _ _ _ (by omega) (by omega) (Or.inl rfl)⟩⟩, HY.out.2⟩
        case round =>
          clear HY
          obtain ⟨k, hik, hkm, rfl, ⟨E, hIn, hE⟩, hK⟩ := hrel
          have hwk : IntKind.i64.wrap ((k : Int) - 1) = (k : Int) - 1 := by rw [IntKind.wrap_i64]; omega
          by_cases hlt2 : i < k
          · have hdd : decide ((i : Int) < (k : Int)) = true := by rw [decide_eq_true_eq]; omega
            have hB := HI.out.2.2.1.kp hK hdb'
            have c1 : wr.cell? ⟨d, 1, none⟩ = some (.func (.func 88) #[] #[s1, s2]) := hB.cell 1
            obtain ⟨W', hs, hI', hK'⟩ := HI.out.2.2.2.1 wr E hIn (hE.out.1.1.trans HD.out.1) k (k - 1) (by omega) (by omega)
            rw [show ((k - 1 : Nat) : Int) = (k : Int) - 1 by omega] at hs
            have HSw := Lib.hid hs
            have HY := Lib.hid (And.intro hI' (hK.trans hK'))
            clear hs hI' hK' hIn hK hB
            go_wp2_with fail
            rw [HSw.out, Oper.upon_value]
            go_wp2_with fail
            go_roundw
            case rel => exact ⟨k - 1, by omega, by omega, by congr 1; omega, ⟨_, HY.out.1, Lib.hid ⟨permIn_trans _ _ _ _ _ hE.out.1 (swp_permIn _ _ _ _ _ (by omega) (by omega) (by omega) (by omega) (by have e1 := hE.out.1.1; have e2 := HD.out.1; omega)), rot_down (by omega) hkm (by have e2 := HD.out.1; omega) hE.out.2⟩⟩, HY.out.2⟩
            case measure => simp [intOf]; omega
          · have hdd : decide ((i : Int) < (k : Int)) = false := by rw [decide_eq_false_iff_not]; omega
            have HY := Lib.hid (And.intro hIn hK)
            clear hIn hK
            go_wp2_with fail
            refine bodyPost_ret (results_none rfl _ _ _) rfl ?_
            refine ⟨rfl, ⟨E, HY.out.1, hE.out.1, ?_⟩, (Kp.of_below HI.out.2.1 [blk]).trans HY.out.2⟩
            have hR := hE.out.2
            rw [show k = i by omega] at hR
            rw [show b = m + 1 by omega]
            exact rot_last hO hmi (by omega) HD.out.2.1 hBd.out.1 hBd.out.2 hR
  obtain ⟨bm, hbme⟩ : ∃ bm : Nat, b - m = bm := ⟨_, rfl⟩
  have hbm : IntKind.i64.wrap ((b : Int) - (m : Int)) = (bm : Int) := by rw [IntKind.wrap_i64]; omega
  have hbm1 : ¬ bm = 1 := by omega
  have hbm2 : ((bm : Int) == 1) = false := by rw [beq_eq_false_iff_ne]; omega
  clear hbme
  obtain ⟨mid, hmide⟩ : ∃ mid : Nat, (a + b) / 2 = mid := ⟨_, rfl⟩
  have hmid : ((a : Int) + (b : Int)) / 2 = (mid : Int) := by omega
  have hmb1 : a < mid ∧ mid < b ∧ 2 * mid ≤ a + b ∧ a + b ≤ 2 * mid + 1 := by omega
  clear hmide
  obtain ⟨nn, hnn⟩ : ∃ nn : Nat, mid + m = nn := ⟨_, rfl⟩
  have hwn : IntKind.i64.wrap ((mid : Int) + (m : Int)) = (nn : Int) := by rw [IntKind.wrap_i64]; omega
  obtain ⟨pp, hpp⟩ : ∃ pp : Nat, nn - 1 = pp := ⟨_, rfl⟩
  have hwp1 : IntKind.i64.wrap ((nn : Int) - 1) = (pp : Int) := by rw [IntKind.wrap_i64]; omega
  have HN := Lib.hid (And.intro hnn hpp)
  by_cases hgm : mid < m
  · have hgt : decide ((mid : Int) < (m : Int)) = true := by rw [decide_eq_true_eq]; omega
    obtain ⟨st, hst⟩ : ∃ st : Nat, nn - b = st := ⟨_, rfl⟩
    have hws : IntKind.i64.wrap ((nn : Int) - (b : Int)) = (st : Int) := by rw [IntKind.wrap_i64]; omega
    have hstb : st + b = mid + m ∧ a ≤ st ∧ st ≤ mid := by omega
    have hppb : pp + 1 = mid + m := by omega
    clear hst hpp
    go_enter Tryz.func107, Tryz.ntmps107
    go_wp2_with fail
    clear hV hd hma hbm
    go_loopw [18, 19] (fun x y wr => ∃ i j : Nat, st ≤ i ∧ i ≤ j ∧ j ≤ mid ∧ x = .int .i64 i ∧ y = .int .i64 j ∧ R wr D ∧ Hid ((st < i → lt D[pp - (i - 1)]! D[i - 1]! = false) ∧ (j < mid → lt D[pp - j]! D[j]! = true)) ∧ Kp [blk] V wr) (fun x y _ => (intOf y).toNat - (intOf x).toNat)
    case atStart => exact ⟨st, mid, Nat.le_refl _, by omega, Nat.le_refl _, rfl, rfl, HI.out.1, Lib.hid ⟨fun h => absurd h (Nat.lt_irrefl _), fun h => absurd h (Nat.lt_irrefl _)⟩, Kp.refl _ _⟩
    case round =>
      obtain ⟨i, j, hmi, hij, hjb, rfl, rfl, hIn, hBd, hK⟩ := hrel
      by_cases hlt : i < j
      · have hdd : decide ((i : Int) < (j : Int)) = true := by rw [decide_eq_true_eq]; omega
        obtain ⟨hh, hhe⟩ : ∃ hh : Nat, (i + j) / 2 = hh := ⟨_, rfl⟩
        have hdiv : ((i : Int) + (j : Int)) / 2 = (hh : Int) := by omega
        have hwh : IntKind.i64.wrap ((hh : Int) + 1) = (hh : Int) + 1 := by rw [IntKind.wrap_i64]; omega
        have hhb : i ≤ hh ∧ hh < j := by omega
        clear hhe
        obtain ⟨pc, hpc⟩ : ∃ pc : Nat, pp - hh = pc := ⟨_, rfl⟩
        have hwp : IntKind.i64.wrap ((pp : Int) - (hh : Int)) = (pc : Int) := by rw [IntKind.wrap_i64]; omega
        have hpcb : pc < n := by omega
        have hhn : hh < n := by omega
        have HPC := Lib.hid hpc
        clear hpc
        have hB := HI.out.2.2.1.kp hK hdb'
        have c0 : wr.cell? ⟨d, 0, none⟩ = some (.func (.func 62) #[] #[lp]) := hB.cell 0
        have hl := HI.out.2.2.2.2.1 wr D hIn HD.out.1 pc hh (by omega) (by omega)
        have HL := Lib.hid hl
        have HK := Lib.hid hK
        clear hl hIn hK hB
        go_wp2_with fail
        refine HL.out.mono ?_
        rintro e w3 ⟨rfl, hI3, b3⟩
        have HY := Lib.hid (And.intro hI3 (HK.out.old b3))
        obtain ⟨bb, hbb⟩ : ∃ bb, lt D[pc]! D[hh]! = bb := ⟨_, rfl⟩
        rw [hbb]
        have HB := Lib.hid hbb
        clear hI3 b3 c0 hbb
        cases bb
        · go_wp2_with fail
          go_roundw
          case rel => exact ⟨hh + 1, j, by omega, by omega, hjb, by go_num, rfl, HY.out.1, Lib.hid ⟨fun _ => by rw [show hh + 1 - 1 = hh by omega, HPC.out]; exact HB.out, hBd.out.2⟩, HY.out.2⟩
          case measure => simp [intOf]; omega
        · go_wp2_with fail
          go_roundw
          case rel => exact ⟨i, hh, hmi, by omega, by omega, rfl, rfl, HY.out.1, Lib.hid ⟨hBd.out.1, fun _ => by rw [HPC.out]; exact HB.out⟩, HY.out.2⟩
          case measure => simp [intOf]; omega
      · have hdd : decide ((i : Int) < (j : Int)) = false := by rw [decide_eq_false_iff_not]; omega
        have H4 := Lib.hid (And.intro hIn hK)
        have hij2 : i = j := by omega
        subst hij2
        obtain ⟨en, hen⟩ : ∃ en : Nat, mid + m - i = en := ⟨_, rfl⟩
        have hwe : IntKind.i64.wrap ((nn : Int) - (i : Int)) = (en : Int) := by rw [IntKind.wrap_i64]; omega
        have hsb : i + en = mid + m := by omega
        have HE1 : Hid (a < i → en < b → lt D[en]! D[i - 1]! = false) := Lib.hid fun h3 h4 => by
          have := hBd.out.1 (by omega)
          rw [show pp - (i - 1) = en by omega] at this; exact this
        have HE2 : Hid (i < m → m < en → lt D[en - 1]! D[i]! = true) := Lib.hid fun h3 h4 => by
          have := hBd.out.2 (by omega)
          rw [show pp - i = en - 1 by omega] at this; exact this
        clear hIn hK hen
        by_cases hc : i < m
        · have hcb : decide ((i : Int) < (m : Int)) = true := by rw [decide_eq_true_eq]; omega
          by_cases hc2 : m < en
          · have hcb2 : decide ((m : Int) < (en : Int)) = true := by rw [decide_eq_true_eq]; omega
            have c0 : _ = some (Value.func (.func 62) #[] #[lp]) := (HI.out.2.2.1.kp H4.out.2 hdb').cell 0
            have c1 : _ = some (Value.func (.func 88) #[] #[s1, s2]) := (HI.out.2.2.1.kp H4.out.2 hdb').cell 1
            have hcall := rotate_eq lp s1 s2 blk n R HI.out.2.2.2.2.2 HI.out.2.2.2.1 i m en (by omega) (by omega) (by omega) hn _ D H4.out.1 HD.out.1 (Nat.lt_of_lt_of_le hbV H4.out.2.size)
            have HCL := Lib.hid hcall
            clear hcall
            go_wp2_with fail
            refine HCL.out.mono ?_
            rintro e w5 ⟨rfl, ⟨D1, hI5, hp1, hr1⟩, k5⟩
            have G1 := Lib.hid (And.intro (permIn_mono D D1 i en a b (by omega) (by omega) (by have e := HD.out.1; omega) hp1) hr1)
            clear hp1 hr1
            have H5 := Lib.hid (And.intro hI5 (H4.out.2.trans k5))
            clear hI5 k5 c0 c1 H4 HCL hcb hcb2
            have H4 := H5
            clear H5
            have r := rot_runs (lt := lt) (a := a) (b := b) (d := D) (by omega) (by omega) (by omega) HD.out.2.1 HD.out.2.2 G1.out.2
            have r1 := Lib.hid r.1
            have r2 := Lib.hid (r.2.1 (by omega))
            have r3 := Lib.hid (r.2.2.1 (by omega))
            have r4 := Lib.hid r.2.2.2
            rw [show i + (en - m) = mid by omega] at r2 r3
            clear r
            by_cases hc : a < i
            · have hcb : decide ((a : Int) < (i : Int)) = true := by rw [decide_eq_true_eq]; omega
              by_cases hc2 : i < mid
              · have hcb2 : decide ((i : Int) < (mid : Int)) = true := by rw [decide_eq_true_eq]; omega
                have c0 : _ = some (Value.func (.func 62) #[] #[lp]) := (HI.out.2.2.1.kp H4.out.2 hdb').cell 0
                have c1 : _ = some (Value.func (.func 88) #[] #[s1, s2]) := (HI.out.2.2.1.kp H4.out.2 hdb').cell 1
                have hcall := IH.out a i mid (by omega) (by omega) (by omega) (by omega) _ _ H4.out.1 (G1.out.1.1.trans HD.out.1) r1.out r2.out (Nat.lt_of_lt_of_le hbV H4.out.2.size)
                have HCL := Lib.hid hcall
                clear hcall
                go_wp2_with fail
                refine HCL.out.mono ?_
                rintro e w5 ⟨rfl, ⟨D2, hI5, hp2, hs2⟩, k5⟩
                have G2 := Lib.hid (And.intro hp2 hs2)
                clear hp2 hs2
                have H5 := Lib.hid (And.intro hI5 (H4.out.2.trans k5))
                clear hI5 k5 c0 c1 H4 HCL hcb hcb2
                have H4 := H5
                clear H5
                by_cases hc : mid < en
                · have hcb : decide ((mid : Int) < (en : Int)) = true := by rw [decide_eq_true_eq]; omega
                  by_cases hc2 : en < b
                  · have hcb2 : decide ((en : Int) < (b : Int)) = true := by rw [decide_eq_true_eq]; omega
                    have c0 : _ = some (Value.func (.func 62) #[] #[lp]) := (HI.out.2.2.1.kp H4.out.2 hdb').cell 0
                    have c1 : _ = some (Value.func (.func 88) #[] #[s1, s2]) := (HI.out.2.2.1.kp H4.out.2 hdb').cell 1
                    have hcall := IH.out mid en b (by omega) (by omega) (by omega) (by omega) _ _ H4.out.1 (G2.out.1.1.trans (G1.out.1.1.trans HD.out.1)) (SortedIn.congr r3.out fun z hz1 hz2 => G2.out.1.2.1 z (Or.inr hz1)) (SortedIn.congr r4.out fun z hz1 hz2 => G2.out.1.2.1 z (Or.inr (by omega))) (Nat.lt_of_lt_of_le hbV H4.out.2.size)
                    have HCL := Lib.hid hcall
                    clear hcall
                    go_wp2_with fail
                    refine HCL.out.mono ?_
                    rintro e w5 ⟨rfl, ⟨D3, hI5, hp3, hs3⟩, k5⟩
                    have G3 := Lib.hid (And.intro hp3 hs3)
                    clear hp3 hs3
                    have H5 := Lib.hid (And.intro hI5 (H4.out.2.trans k5))
                    clear hI5 k5 c0 c1 H4 HCL hcb hcb2
                    have H4 := H5
                    clear H5
                    go_wp2_with fail
                    go_end0
                    exact ⟨rfl, ⟨_, H4.out.1, merge_end hO HD.out.1 hb (by omega) (by omega) (by omega) (by omega) (by omega) HD.out.2.1 HD.out.2.2 HE1 HE2 G1.out.1 G1.out.2 G2.out.1 G2.out.2 G3.out.1 G3.out.2⟩, (Kp.of_below HI.out.2.1 [blk]).trans H4.out.2⟩
                  · have hcb2 : decide ((en : Int) < (b : Int)) = false := by rw [decide_eq_false_iff_not]; omega
                    have G3 := Lib.hid (g_skip3 (b := b) H4.out.1 G2.out.1 (sorted_join (by omega) r3.out r4.out))
                    go_wp2_with fail
                    go_end0
                    exact ⟨rfl, ⟨_, H4.out.1, merge_end hO HD.out.1 hb (by omega) (by omega) (by omega) (by omega) (by omega) HD.out.2.1 HD.out.2.2 HE1 HE2 G1.out.1 G1.out.2 G2.out.1 G2.out.2 G3.out.1 G3.out.2⟩, (Kp.of_below HI.out.2.1 [blk]).trans H4.out.2⟩
                · have hcb : decide ((mid : Int) < (en : Int)) = false := by rw [decide_eq_false_iff_not]; omega
                  have G3 := Lib.hid (g_skip3 (b := b) H4.out.1 G2.out.1 (sorted_join (by omega) r3.out r4.out))
                  go_wp2_with fail
                  go_end0
                  exact ⟨rfl, ⟨_, H4.out.1, merge_end hO HD.out.1 hb (by omega) (by omega) (by omega) (by omega) (by omega) HD.out.2.1 HD.out.2.2 HE1 HE2 G1.out.1 G1.out.2 G2.out.1 G2.out.2 G3.out.1 G3.out.2⟩, (Kp.of_below HI.out.2.1 [blk]).trans H4.out.2⟩
              · have hcb2 : decide ((i : Int) < (mid : Int)) = false := by rw [decide_eq_false_iff_not]; omega
                have G2 := Lib.hid (g_skip2 H4.out.1 (sorted_join (by omega) r1.out r2.out))
                by_cases hc : mid < en
                · have hcb : decide ((mid : Int) < (en : Int)) = true := by rw [decide_eq_true_eq]; omega
                  by_cases hc2 : en < b
                  · have hcb2 : decide ((en : Int) < (b : Int)) = true := by rw [decide_eq_true_eq]; omega
                    have c0 : _ = some (Value.func (.func 62) #[] #[lp]) := (HI.out.2.2.1.kp H4.out.2 hdb').cell 0
                    have c1 : _ = some (Value.func (.func 88) #[] #[s1, s2]) := (HI.out.2.2.1.kp H4.out.2 hdb').cell 1
                    have hcall := IH.out mid en b (by omega) (by omega) (by omega) (by omega) _ _ H4.out.1 (G2.out.1.1.trans (G1.out.1.1.trans HD.out.1)) (SortedIn.congr r3.out fun z hz1 hz2 => G2.out.1.2.1 z (Or.inr hz1)) (SortedIn.congr r4.out fun z hz1 hz2 => G2.out.1.2.1 z (Or.inr (by omega))) (Nat.lt_of_lt_of_le hbV H4.out.2.size)
                    have HCL := Lib.hid hcall
                    clear hcall
                    go_wp2_with fail
                    refine HCL.out.mono ?_
                    rintro e w5 ⟨rfl, ⟨D3, hI5, hp3, hs3⟩, k5⟩
                    have G3 := Lib.hid (And.intro hp3 hs3)
                    clear hp3 hs3
                    have H5 := Lib.hid (And.intro hI5 (H4.out.2.trans k5))
                    clear hI5 k5 c0 c1 H4 HCL hcb hcb2
                    have H4 := H5
                    clear H5
                    go_wp2_with fail
                    go_end0
                    exact ⟨rfl, ⟨_, H4.out.1, merge_end hO HD.out.1 hb (by omega) (by omega) (by omega) (by omega) (by omega) HD.out.2.1 HD.out.2.2 HE1 HE2 G1.out.1 G1.out.2 G2.out.1 G2.out.2 G3.out.1 G3.out.2⟩, (Kp.of_below HI.out.2.1 [blk]).trans H4.out.2⟩
                  · have hcb2 : decide ((en : Int) < (b : Int)) = false := by rw [decide_eq_false_iff_not]; omega
                    have G3 := Lib.hid (g_skip3 (b := b) H4.out.1 G2.out.1 (sorted_join (by omega) r3.out r4.out))
                    go_wp2_with fail
                    go_end0
                    exact ⟨rfl, ⟨_, H4.out.1, merge_end hO HD.out.1 hb (by omega) (by omega) (by omega) (by omega) (by omega) HD.out.2.1 HD.out.2.2 HE1 HE2 G1.out.1 G1.out.2 G2.out.1 G2.out.2 G3.out.1 G3.out.2⟩, (Kp.of_below HI.out.2.1 [blk]).trans H4.out.2⟩
                · have hcb : decide ((mid : Int) < (en : Int)) = false := by rw [decide_eq_false_iff_not]; omega
                  have G3 := Lib.hid (g_skip3 (b := b) H4.out.1 G2.out.1 (sorted_join (by omega) r3.out r4.out))
                  go_wp2_with fail
                  go_end0
                  exact ⟨rfl, ⟨_, H4.out.1, merge_end hO HD.out.1 hb (by omega) (by omega) (by omega) (by omega) (by omega) HD.out.2.1 HD.out.2.2 HE1 HE2 G1.out.1 G1.out.2 G2.out.1 G2.out.2 G3.out.1 G3.out.2⟩, (Kp.of_below HI.out.2.1 [blk]).trans H4.out.2⟩
            · have hcb : decide ((a : Int) < (i : Int)) = false := by rw [decide_eq_false_iff_not]; omega
              have G2 := Lib.hid (g_skip2 H4.out.1 (sorted_join (by omega) r1.out r2.out))
              by_cases hc : mid < en
              · have hcb : decide ((mid : Int) < (en : Int)) = true := by rw [decide_eq_true_eq]; omega
                by_cases hc2 : en < b
                · have hcb2 : decide ((en : Int) < (b : Int)) = true := by rw [decide_eq_true_eq]; omega
                  have c0 : _ = some (Value.func (.func 62) #[] #[lp]) := (HI.out.2.2.1.kp H4.out.2 hdb').cell 0
                  have c1 : _ = some (Value.func (.func 88) #[] #[s1, s2]) := (HI.out.2.2.1.kp H4.out.2 hdb').cell 1
                  have hcall := IH.out mid en b (by omega) (by omega) (by omega) (by omega) _ _ H4.out.1 (G2.out.1.1.trans (G1.out.1.1.trans HD.out.1)) (SortedIn.congr r3.out fun z hz1 hz2 => G2.out.1.2.1 z (Or.inr hz1)) (SortedIn.congr r4.out fun z hz1 hz2 => G2.out.1.2.1 z (Or.inr (by omega))) (Nat.lt_of_lt_of_le hbV H4.out.2.size)
                  have HCL := Lib.hid hcall
                  clear hcall
                  go_wp2_with fail
                  refine HCL.out.mono ?_
                  rintro e w5 ⟨rfl, ⟨D3, hI5, hp3, hs3⟩, k5⟩
                  have G3 := Lib.hid (And.intro hp3 hs3)
                  clear hp3 hs3
                  have H5 := Lib.hid (And.intro hI5 (H4.out.2.trans k5))
                  clear hI5 k5 c0 c1 H4 HCL hcb hcb2
                  have H4 := H5
                  clear H5
                  go_wp2_with fail
                  go_end0
                  exact ⟨rfl, ⟨_, H4.out.1, merge_end hO HD.out.1 hb (by omega) (by omega) (by omega) (by omega) (by omega) HD.out.2.1 HD.out.2.2 HE1 HE2 G1.out.1 G1.out.2 G2.out.1 G2.out.2 G3.out.1 G3.out.2⟩, (Kp.of_below HI.out.2.1 [blk]).trans H4.out.2⟩
                · have hcb2 : decide ((en : Int) < (b : Int)) = false := by rw [decide_eq_false_iff_not]; omega
                  have G3 := Lib.hid (g_skip3 (b := b) H4.out.1 G2.out.1 (sorted_join (by omega) r3.out r4.out))
                  go_wp2_with fail
                  go_end0
                  exact ⟨rfl, ⟨_, H4.out.1, merge_end hO HD.out.1 hb (by omega) (by omega) (by omega) (by omega) (by omega) HD.out.2.1 HD.out.2.2 HE1 HE2 G1.out.1 G1.out.2 G2.out.1 G2.out.2 G3.out.1 G3.out.2⟩, (Kp.of_below HI.out.2.1 [blk]).trans H4.out.2⟩
              · have hcb : decide ((mid : Int) < (en : Int)) = false := by rw [decide_eq_false_iff_not]; omega
                have G3 := Lib.hid (g_skip3 (b := b) H4.out.1 G2.out.1 (sorted_join (by omega) r3.out r4.out))
                go_wp2_with fail
                go_end0
                exact ⟨rfl, ⟨_, H4.out.1, merge_end hO HD.out.1 hb (by omega) (by omega) (by omega) (by omega) (by omega) HD.out.2.1 HD.out.2.2 HE1 HE2 G1.out.1 G1.out.2 G2.out.1 G2.out.2 G3.out.1 G3.out.2⟩, (Kp.of_below HI.out.2.1 [blk]).trans H4.out.2⟩
          · have hcb2 : decide ((m : Int) < (en : Int)) = false := by rw [decide_eq_false_iff_not]; omega
            have G1 := Lib.hid (And.intro (permIn_refl D a b) (rot_id D i m en (by omega) (by omega) (by omega)))
            have r := rot_runs (lt := lt) (a := a) (b := b) (d := D) (by omega) (by omega) (by omega) HD.out.2.1 HD.out.2.2 G1.out.2
            have r1 := Lib.hid r.1
            have r2 := Lib.hid (r.2.1 (by omega))
            have r3 := Lib.hid (r.2.2.1 (by omega))
            have r4 := Lib.hid r.2.2.2
            rw [show i + (en - m) = mid by omega] at r2 r3
            clear r
            by_cases hc : a < i
            · have hcb : decide ((a : Int) < (i : Int)) = true := by rw [decide_eq_true_eq]; omega
              by_cases hc2 : i < mid
              · have hcb2 : decide ((i : Int) < (mid : Int)) = true := by rw [decide_eq_true_eq]; omega
                have c0 : _ = some (Value.func (.func 62) #[] #[lp]) := (HI.out.2.2.1.kp H4.out.2 hdb').cell 0
                have c1 : _ = some (Value.func (.func 88) #[] #[s1, s2]) := (HI.out.2.2.1.kp H4.out.2 hdb').cell 1
                have hcall := IH.out a i mid (by omega) (by omega) (by omega) (by omega) _ _ H4.out.1 (G1.out.1.1.trans HD.out.1) r1.out r2.out (Nat.lt_of_lt_of_le hbV H4.out.2.size)
                have HCL := Lib.hid hcall
                clear hcall
                go_wp2_with fail
                refine HCL.out.mono ?_
                rintro e w5 ⟨rfl, ⟨D2, hI5, hp2, hs2⟩, k5⟩
                have G2 := Lib.hid (And.intro hp2 hs2)
                clear hp2 hs2
                have H5 := Lib.hid (And.intro hI5 (H4.out.2.trans k5))
                clear hI5 k5 c0 c1 H4 HCL hcb hcb2
                have H4 := H5
                clear H5
                by_cases hc : mid < en
                · have hcb : decide ((mid : Int) < (en : Int)) = true := by rw [decide_eq_true_eq]; omega
                  by_cases hc2 : en < b
                  · have hcb2 : decide ((en : Int) < (b : Int)) = true := by rw [decide_eq_true_eq]; omega
                    have c0 : _ = some (Value.func (.func 62) #[] #[lp]) := (HI.out.2.2.1.kp H4.out.2 hdb').cell 0
                    have c1 : _ = some (Value.func (.func 88) #[] #[s1, s2]) := (HI.out.2.2.1.kp H4.out.2 hdb').cell 1
                    have hcall := IH.out mid en b (by omega) (by omega) (by omega) (by omega) _ _ H4.out.1 (G2.out.1.1.trans (G1.out.1.1.trans HD.out.1)) (SortedIn.congr r3.out fun z hz1 hz2 => G2.out.1.2.1 z (Or.inr hz1)) (SortedIn.congr r4.out fun z hz1 hz2 => G2.out.1.2.1 z (Or.inr (by omega))) (Nat.lt_of_lt_of_le hbV H4.out.2.size)
                    have HCL := Lib.hid hcall
                    clear hcall
                    go_wp2_with fail
                    refine HCL.out.mono ?_
                    rintro e w5 ⟨rfl, ⟨D3, hI5, hp3, hs3⟩, k5⟩
                    have G3 := Lib.hid (And.intro hp3 hs3)
                    clear hp3 hs3
                    have H5 := Lib.hid (And.intro hI5 (H4.out.2.trans k5))
                    clear hI5 k5 c0 c1 H4 HCL hcb hcb2
                    have H4 := H5
                    clear H5
                    go_wp2_with fail
                    go_end0
                    exact ⟨rfl, ⟨_, H4.out.1, merge_end hO HD.out.1 hb (by omega) (by omega) (by omega) (by omega) (by omega) HD.out.2.1 HD.out.2.2 HE1 HE2 G1.out.1 G1.out.2 G2.out.1 G2.out.2 G3.out.1 G3.out.2⟩, (Kp.of_below HI.out.2.1 [blk]).trans H4.out.2⟩
                  · have hcb2 : decide ((en : Int) < (b : Int)) = false := by rw [decide_eq_false_iff_not]; omega
                    have G3 := Lib.hid (g_skip3 (b := b) H4.out.1 G2.out.1 (sorted_join (by omega) r3.out r4.out))
                    go_wp2_with fail
                    go_end0
                    exact ⟨rfl, ⟨_, H4.out.1, merge_end hO HD.out.1 hb (by omega) (by omega) (by omega) (by omega) (by omega) HD.out.2.1 HD.out.2.2 HE1 HE2 G1.out.1 G1.out.2 G2.out.1 G2.out.2 G3.out.1 G3.out.2⟩, (Kp.of_below HI.out.2.1 [blk]).trans H4.out.2⟩
                · have hcb : decide ((mid : Int) < (en : Int)) = false := by rw [decide_eq_false_iff_not]; omega
                  have G3 := Lib.hid (g_skip3 (b := b) H4.out.1 G2.out.1 (sorted_join (by omega) r3.out r4.out))
                  go_wp2_with fail
                  go_end0
                  exact ⟨rfl, ⟨_, H4.out.1, merge_end hO HD.out.1 hb (by omega) (by omega) (by omega) (by omega) (by omega) HD.out.2.1 HD.out.2.2 HE1 HE2 G1.out.1 G1.out.2 G2.out.1 G2.out.2 G3.out.1 G3.out.2⟩, (Kp.of_below HI.out.2.1 [blk]).trans H4.out.2⟩
              · have hcb2 : decide ((i : Int) < (mid : Int)) = false := by rw [decide_eq_false_iff_not]; omega
                have G2 := Lib.hid (g_skip2 H4.out.1 (sorted_join (by omega) r1.out r2.out))
                by_cases hc : mid < en
                · have hcb : decide ((mid : Int) < (en : Int)) = true := by rw [decide_eq_true_eq]; omega
                  by_cases hc2 : en < b
                  · have hcb2 : decide ((en : Int) < (b : Int)) = true := by rw [decide_eq_true_eq]; omega
                    have c0 : _ = some (Value.func (.func 62) #[] #[lp]) := (HI.out.2.2.1.kp H4.out.2 hdb').cell 0
                    have c1 : _ = some (Value.func (.func 88) #[] #[s1, s2]) := (HI.out.2.2.1.kp H4.out.2 hdb').cell 1
                    have hcall := IH.out mid en b (by omega) (by omega) (by omega) (by omega) _ _ H4.out.1 (G2.out.1.1.trans (G1.out.1.1.trans HD.out.1)) (SortedIn.congr r3.out fun z hz1 hz2 => G2.out.1.2.1 z (Or.inr hz1)) (SortedIn.congr r4.out fun z hz1 hz2 => G2.out.1.2.1 z (Or.inr (by omega))) (Nat.lt_of_lt_of_le hbV H4.out.2.size)
                    have HCL := Lib.hid hcall
                    clear hcall
                    go_wp2_with fail
                    refine HCL.out.mono ?_
                    rintro e w5 ⟨rfl, ⟨D3, hI5, hp3, hs3⟩, k5⟩
                    have G3 := Lib.hid (And.intro hp3 hs3)
                    clear hp3 hs3
                    have H5 := Lib.hid (And.intro hI5 (H4.out.2.trans k5))
                    clear hI5 k5 c0 c1 H4 HCL hcb hcb2
                    have H4 := H5
                    clear H5
                    go_wp2_with fail
                    go_end0
                    exact ⟨rfl, ⟨_, H4.out.1, merge_end hO HD.out.1 hb (by omega) (by omega) (by omega) (by omega) (by omega) HD.out.2.1 HD.out.2.2 HE1 HE2 G1.out.1 G1.out.2 G2.out.1 G2.out.2 G3.out.1 G3.out.2⟩, (Kp.of_below HI.out.2.1 [blk]).trans H4.out.2⟩
                  · have hcb2 : decide ((en : Int) < (b : Int)) = false := by rw [decide_eq_false_iff_not]; omega
                    have G3 := Lib.hid (g_skip3 (b := b) H4.out.1 G2.out.1 (sorted_join (by omega) r3.out r4.out))
                    go_wp2_with fail
                    go_end0
                    exact ⟨rfl, ⟨_, H4.out.1, merge_end hO HD.out.1 hb (by omega) (by omega) (by omega) (by omega) (by omega) HD.out.2.1 HD.out.2.2 HE1 HE2 G1.out.1 G1.out.2 G2.out.1 G2.out.2 G3.out.1 G3.out.2⟩, (Kp.of_below HI.out.2.1 [blk]).trans H4.out.2⟩
                · have hcb : decide ((mid : Int) < (en : Int)) = false := by rw [decide_eq_false_iff_not]; omega
                  have G3 := Lib.hid (g_skip3 (b := b) H4.out.1 G2.out.1 (sorted_join (by omega) r3.out r4.out))
                  go_wp2_with fail
                  go_end0
                  exact ⟨rfl, ⟨_, H4.out.1, merge_end hO HD.out.1 hb (by omega) (by omega) (by omega) (by omega) (by omega) HD.out.2.1 HD.out.2.2 HE1 HE2 G1.out.1 G1.out.2 G2.out.1 G2.out.2 G3.out.1 G3.out.2⟩, (Kp.of_below HI.out.2.1 [blk]).trans H4.out.2⟩
            · have hcb : decide ((a : Int) < (i : Int)) = false := by rw [decide_eq_false_iff_not]; omega
              have G2 := Lib.hid (g_skip2 H4.out.1 (sorted_join (by omega) r1.out r2.out))
              by_cases hc : mid < en
              · have hcb : decide ((mid : Int) < (en : Int)) = true := by rw [decide_eq_true_eq]; omega
                by_cases hc2 : en < b
                · have hcb2 : decide ((en : Int) < (b : Int)) = true := by rw [decide_eq_true_eq]; omega
                  have c0 : _ = some (Value.func (.func 62) #[] #[lp]) := (HI.out.2.2.1.kp H4.out.2 hdb').cell 0
                  have c1 : _ = some (Value.func (.func 88) #[] #[s1, s2]) := (HI.out.2.2.1.kp H4.out.2 hdb').cell 1
                  have hcall := IH.out mid en b (by omega) (by omega) (by omega) (by omega) _ _ H4.out.1 (G2.out.1.1.trans (G1.out.1.1.trans HD.out.1)) (SortedIn.congr r3.out fun z hz1 hz2 => G2.out.1.2.1 z (Or.inr hz1)) (SortedIn.congr r4.out fun z hz1 hz2 => G2.out.1.2.1 z (Or.inr (by omega))) (Nat.lt_of_lt_of_le hbV H4.out.2.size)
                  have HCL := Lib.hid hcall
                  clear hcall
                  go_wp2_with fail
                  refine HCL.out.mono ?_
                  rintro e w5 ⟨rfl, ⟨D3, hI5, hp3, hs3⟩, k5⟩
                  have G3 := Lib.hid (And.intro hp3 hs3)
                  clear hp3 hs3
                  have H5 := Lib.hid (And.intro hI5 (H4.out.2.trans k5))
                  clear hI5 k5 c0 c1 H4 HCL hcb hcb2
                  have H4 := H5
                  clear H5
                  go_wp2_with fail
                  go_end0
                  exact ⟨rfl, ⟨_, H4.out.1, merge_end hO HD.out.1 hb (by omega) (by omega) (by omega) (by omega) (by omega) HD.out.2.1 HD.out.2.2 HE1 HE2 G1.out.1 G1.out.2 G2.out.1 G2.out.2 G3.out.1 G3.out.2⟩, (Kp.of_below HI.out.2.1 [blk]).trans H4.out.2⟩
                · have hcb2 : decide ((en : Int) < (b : Int)) = false := by rw [decide_eq_false_iff_not]; omega
                  have G3 := Lib.hid (g_skip3 (b := b) H4.out.1 G2.out.1 (sorted_join (by omega) r3.out r4.out))
                  go_wp2_with fail
                  go_end0
                  exact ⟨rfl, ⟨_, H4.out.1, merge_end hO HD.out.1 hb (by omega) (by omega) (by omega) (by omega) (by omega) HD.out.2.1 HD.out.2.2 HE1 HE2 G1.out.1 G1.out.2 G2.out.1 G2.out.2 G3.out.1 G3.out.2⟩, (Kp.of_below HI.out.2.1 [blk]).trans H4.out.2⟩
              · have hcb : decide ((mid : Int) < (en : Int)) = false := by rw [decide_eq_false_iff_not]; omega
                have G3 := Lib.hid (g_skip3 (b := b) H4.out.1 G2.out.1 (sorted_join (by omega) r3.out r4.out))
                go_wp2_with fail
                go_end0
                exact ⟨rfl, ⟨_, H4.out.1, merge_end hO HD.out.1 hb (by omega) (by omega) (by omega) (by omega) (by omega) HD.out.2.1 HD.out.2.2 HE1 HE2 G1.out.1 G1.out.2 G2.out.1 G2.out.2 G3.out.1 G3.out.2⟩, (Kp.of_below HI.out.2.1 [blk]).trans H4.out.2⟩
        · have hcb : decide ((i : Int) < (m : Int)) = false := by rw [decide_eq_false_iff_not]; omega
          have G1 := Lib.hid (And.intro (permIn_refl D a b) (rot_id D i m en (by omega) (by omega) (by omega)))
          have r := rot_runs (lt := lt) (a := a) (b := b) (d := D) (by omega) (by omega) (by omega) HD.out.2.1 HD.out.2.2 G1.out.2
          have r1 := Lib.hid r.1
          have r2 := Lib.hid (r.2.1 (by omega))
          have r3 := Lib.hid (r.2.2.1 (by omega))
          have r4 := Lib.hid r.2.2.2
          rw [show i + (en - m) = mid by omega] at r2 r3
          clear r
          by_cases hc : a < i
          · have hcb : decide ((a : Int) < (i : Int)) = true := by rw [decide_eq_true_eq]; omega
            by_cases hc2 : i < mid
            · have hcb2 : decide ((i : Int) < (mid : Int)) = true := by rw [decide_eq_true_eq]; omega
              have c0 : _ = some (Value.func (.func 62) #[] #[lp]) := (HI.out.2.2.1.kp H4.out.2 hdb').cell 0
              have c1 : _ = some (Value.func (.func 88) #[] #[s1, s2]) := (HI.out.2.2.1.kp H4.out.2 hdb').cell 1
              have hcall := IH.out a i mid (by omega) (by omega) (by omega) (by omega) _ _ H4.out.1 (G1.out.1.1.trans HD.out.1) r1.out r2.out (Nat.lt_of_lt_of_le hbV H4.out.2.size)
              have HCL := Lib.hid hcall
              clear hcall
              go_wp2_with fail
              refine HCL.out.mono ?_
              rintro e w5 ⟨rfl, ⟨D2, hI5, hp2, hs2⟩, k5⟩
              have G2 := Lib.hid (And.intro hp2 hs2)
              clear hp2 hs2
              have H5 := Lib.hid (And.intro hI5 (H4.out.2.trans k5))
              clear hI5 k5 c0 c1 H4 HCL hcb hcb2
              have H4 := H5
              clear H5
              by_cases hc : mid < en
              · have hcb : decide ((mid : Int) < (en : Int)) = true := by rw [decide_eq_true_eq]; omega
                by_cases hc2 : en < b
                · have hcb2 : decide ((en : Int) < (b : Int)) = true := by rw [decide_eq_true_eq]; omega
                  have c0 : _ = some (Value.func (.func 62) #[] #[lp]) := (HI.out.2.2.1.kp H4.out.2 hdb').cell 0
                  have c1 : _ = some (Value.func (.func 88) #[] #[s1, s2]) := (HI.out.2.2.1.kp H4.out.2 hdb').cell 1
                  have hcall := IH.out mid en b (by omega) (by omega) (by omega) (by omega) _ _ H4.out.1 (G2.out.1.1.trans (G1.out.1.1.trans HD.out.1)) (SortedIn.congr r3.out fun z hz1 hz2 => G2.out.1.2.1 z (Or.inr hz1)) (SortedIn.congr r4.out fun z hz1 hz2 => G2.out.1.2.1 z (Or.inr (by omega))) (Nat.lt_of_lt_of_le hbV H4.out.2.size)
                  have HCL := Lib.hid hcall
                  clear hcall
                  go_wp2_with fail
                  refine HCL.out.mono ?_
                  rintro e w5 ⟨rfl, ⟨D3, hI5, hp3, hs3⟩, k5⟩
                  have G3 := Lib.hid (And.intro hp3 hs3)
                  clear hp3 hs3
                  have H5 := Lib.hid (And.intro hI5 (H4.out.2.trans k5))
                  clear hI5 k5 c0 c1 H4 HCL hcb hcb2
                  have H4 := H5
                  clear H5
                  go_wp2_with fail
                  go_end0
                  exact ⟨rfl, ⟨_, H4.out.1, merge_end hO HD.out.1 hb (by omega) (by omega) (by omega) (by omega) (by omega) HD.out.2.1 HD.out.2.2 HE1 HE2 G1.out.1 G1.out.2 G2.out.1 G2.out.2 G3.out.1 G3.out.2⟩, (Kp.of_below HI.out.2.1 [blk]).trans H4.out.2⟩
                · have hcb2 : decide ((en : Int) < (b : Int)) = false := by rw [decide_eq_false_iff_not]; omega
                  have G3 := Lib.hid (g_skip3 (b := b) H4.out.1 G2.out.1 (sorted_join (by omega) r3.out r4.out))
                  go_wp2_with fail
                  go_end0
                  exact ⟨rfl, ⟨_, H4.out.1, merge_end hO HD.out.1 hb (by omega) (by omega) (by omega) (by omega) (by omega) HD.out.2.1 HD.out.2.2 HE1 HE2 G1.out.1 G1.out.2 G2.out.1 G2.out.2 G3.out.1 G3.out.2⟩, (Kp.of_below HI.out.2.1 [blk]).trans H4.out.2⟩
              · have hcb : decide ((mid : Int) < (en : Int)) = false := by rw [decide_eq_false_iff_not]; omega
                have G3 := Lib.hid (g_skip3 (b := b) H4.out.1 G2.out.1 (sorted_join (by omega) r3.out r4.out))
                go_wp2_with fail
                go_end0
                exact ⟨rfl, ⟨_, H4.out.1, merge_end hO HD.out.1 hb (by omega) (by omega) (by omega) (by omega) (by omega) HD.out.2.1 HD.out.2.2 HE1 HE2 G1.out.1 G1.out.2 G2.out.1 G2.out.2 G3.out.1 G3.out.2⟩, (Kp.of_below HI.out.2.1 [blk]).trans H4.out.2⟩
            · have hcb2 : decide ((i : Int) < (mid : Int)) = false := by rw [decide_eq_false_iff_not]; omega
              have G2 := Lib.hid (g_skip2 H4.out.1 (sorted_join (by omega) r1.out r2.out))
              by_cases hc : mid < en
              · have hcb : decide ((mid : Int) < (en : Int)) = true := by rw [decide_eq_true_eq]; omega
                by_cases hc2 : en < b
                · have hcb2 : decide ((en : Int) < (b : Int)) = true := by rw [decide_eq_true_eq]; omega
                  have c0 : _ = some (Value.func (.func 62) #[] #[lp]) := (HI.out.2.2.1.kp H4.out.2 hdb').cell 0
                  have c1 : _ = some (Value.func (.func 88) #[] #[s1, s2]) := (HI.out.2.2.1.kp H4.out.2 hdb').cell 1
                  have hcall := IH.out mid en b (by omega) (by omega) (by omega) (by omega) _ _ H4.out.1 (G2.out.1.1.trans (G1.out.1.1.trans HD.out.1)) (SortedIn.congr r3.out fun z hz1 hz2 => G2.out.1.2.1 z (Or.inr hz1)) (SortedIn.congr r4.out fun z hz1 hz2 => G2.out.1.2.1 z (Or.inr (by omega))) (Nat.lt_of_lt_of_le hbV H4.out.2.size)
                  have HCL := Lib.hid hcall
                  clear hcall
                  go_wp2_with fail
                  refine HCL.out.mono ?_
                  rintro e w5 ⟨rfl, ⟨D3, hI5, hp3, hs3⟩, k5⟩
                  have G3 := Lib.hid (And.intro hp3 hs3)
                  clear hp3 hs3
                  have H5 := Lib.hid (And.intro hI5 (H4.out.2.trans k5))
                  clear hI5 k5 c0 c1 H4 HCL hcb hcb2
                  have H4 := H5
                  clear H5
                  go_wp2_with fail
                  go_end0
                  exact ⟨rfl, ⟨_, H4.out.1, merge_end hO HD.out.1 hb (by omega) (by omega) (by omega) (by omega) (by omega) HD.out.2.1 HD.out.2.2 HE1 HE2 G1.out.1 G1.out.2 G2.out.1 G2.out.2 G3.out.1 G3.out.2⟩, (Kp.of_below HI.out.2.1 [blk]).trans H4.out.2⟩
                · have hcb2 : decide ((en : Int) < (b : Int)) = false := by rw [decide_eq_false_iff_not]; omega
                  have G3 := Lib.hid (g_skip3 (b := b) H4.out.1 G2.out.1 (sorted_join (by omega) r3.out r4.out))
                  go_wp2_with fail
                  go_end0
                  exact ⟨rfl, ⟨_, H4.out.1, merge_end hO HD.out.1 hb (by omega) (by omega) (by omega) (by omega) (by omega) HD.out.2.1 HD.out.2.2 HE1 HE2 G1.out.1 G1.out.2 G2.out.1 G2.out.2 G3.out.1 G3.out.2⟩, (Kp.of_below HI.out.2.1 [blk]).trans H4.out.2⟩
              · have hcb : decide ((mid : Int) < (en : Int)) = false := by rw [decide_eq_false_iff_not]; omega
                have G3 := Lib.hid (g_skip3 (b := b) H4.out.1 G2.out.1 (sorted_join (by omega) r3.out r4.out))
                go_wp2_with fail
                go_end0
                exact ⟨rfl, ⟨_, H4.out.1, merge_end hO HD.out.1 hb (by omega) (by omega) (by omega) (by omega) (by omega) HD.out.2.1 HD.out.2.2 HE1 HE2 G1.out.1 G1.out.2 G2.out.1 G2.out.2 G3.out.1 G3.out.2⟩, (Kp.of_below HI.out.2.1 [blk]).trans H4.out.2⟩
          · have hcb : decide ((a : Int) < (i : Int)) = false := by rw [decide_eq_false_iff_not]; omega
            have G2 := Lib.hid (g_skip2 H4.out.1 (sorted_join (by omega) r1.out r2.out))
            by_cases hc : mid < en
            · have hcb : decide ((mid : Int) < (en : Int)) = true := by rw [decide_eq_true_eq]; omega
              by_cases hc2 : en < b
              · have hcb2 : decide ((en : Int) < (b : Int)) = true := by rw [decide_eq_true_eq]; omega
                have c0 : _ = some (Value.func (.func 62) #[] #[lp]) := (HI.out.2.2.1.kp H4.out.2 hdb').cell 0
                have c1 : _ = some (Value.func (.func 88) #[] #[s1, s2]) := (HI.out.2.2.1.kp H4.out.2 hdb').cell 1
                have hcall := IH.out mid en b (by omega) (by omega) (by omega) (by omega) _ _ H4.out.1 (G2.out.1.1.trans (G1.out.1.1.trans HD.out.1)) (SortedIn.congr r3.out fun z hz1 hz2 => G2.out.1.2.1 z (Or.inr hz1)) (SortedIn.congr r4.out fun z hz1 hz2 => G2.out.1.2.1 z (Or.inr (by omega))) (Nat.lt_of_lt_of_le hbV H4.out.2.size)
                have HCL := Lib.hid hcall
                clear hcall
                go_wp2_with fail
                refine HCL.out.mono ?_
                rintro e w5 ⟨rfl, ⟨D3, hI5, hp3, hs3⟩, k5⟩
                have G3 := Lib.hid (And.intro hp3 hs3)
                clear hp3 hs3
                have H5 := Lib.hid (And.intro hI5 (H4.out.2.trans k5))
                clear hI5 k5 c0 c1 H4 HCL hcb hcb2
                have H4 := H5
                clear H5
                go_wp2_with fail
                go_end0
                exact ⟨rfl, ⟨_, H4.out.1, merge_end hO HD.out.1 hb (by omega) (by omega) (by omega) (by omega) (by omega) HD.out.2.1 HD.out.2.2 HE1 HE2 G1.out.1 G1.out.2 G2.out.1 G2.out.2 G3.out.1 G3.out.2⟩, (Kp.of_below HI.out.2.1 [blk]).trans H4.out.2⟩
              · have hcb2 : decide ((en : Int) < (b : Int)) = false := by rw [decide_eq_false_iff_not]; omega
                have G3 := Lib.hid (g_skip3 (b := b) H4.out.1 G2.out.1 (sorted_join (by omega) r3.out r4.out))
                go_wp2_with fail
                go_end0
                exact ⟨rfl, ⟨_, H4.out.1, merge_end hO HD.out.1 hb (by omega) (by omega) (by omega) (by omega) (by omega) HD.out.2.1 HD.out.2.2 HE1 HE2 G1.out.1 G1.out.2 G2.out.1 G2.out.2 G3.out.1 G3.out.2⟩, (Kp.of_below HI.out.2.1 [blk]).trans H4.out.2⟩
            · have hcb : decide ((mid : Int) < (en : Int)) = false := by rw [decide_eq_false_iff_not]; omega
              have G3 := Lib.hid (g_skip3 (b := b) H4.out.1 G2.out.1 (sorted_join (by omega) r3.out r4.out))
              go_wp2_with fail
              go_end0
              exact ⟨rfl, ⟨_, H4.out.1, merge_end hO HD.out.1 hb (by omega) (by omega) (by omega) (by omega) (by omega) HD.out.2.1 HD.out.2.2 HE1 HE2 G1.out.1 G1.out.2 G2.out.1 G2.out.2 G3.out.1 G3.out.2⟩, (Kp.of_below HI.out.2.1 [blk]).trans H4.out.2⟩
  · have hgt : decide ((mid : Int) < (m : Int)) = false := by rw [decide_eq_false_iff_not]; omega
    have hppb : pp + 1 = mid + m := by omega
    clear hpp
    go_enter Tryz.func107, Tryz.ntmps107
    go_wp2_with fail
    clear hV hd hma hbm
    go_loopw [18, 19] (fun x y wr => ∃ i j : Nat, a ≤ i ∧ i ≤ j ∧ j ≤ m ∧ x = .int .i64 i ∧ y = .int .i64 j ∧ R wr D ∧ Hid ((a < i → lt D[pp - (i - 1)]! D[i - 1]! = false) ∧ (j < m → lt D[pp - j]! D[j]! = true)) ∧ Kp [blk] V wr) (fun x y _ => (intOf y).toNat - (intOf x).toNat)
    case atStart => exact ⟨a, m, Nat.le_refl _, by omega, Nat.le_refl _, rfl, rfl, HI.out.1, Lib.hid ⟨fun h => absurd h (Nat.lt_irrefl _), fun h => absurd h (Nat.lt_irrefl _)⟩, Kp.refl _ _⟩
    case round =>
      obtain ⟨i, j, hmi, hij, hjb, rfl, rfl, hIn, hBd, hK⟩ := hrel
      by_cases hlt : i < j
      · have hdd : decide ((i : Int) < (j : Int)) = true := by rw [decide_eq_true_eq]; omega
        obtain ⟨hh, hhe⟩ : ∃ hh : Nat, (i + j) / 2 = hh := ⟨_, rfl⟩
        have hdiv : ((i : Int) + (j : Int)) / 2 = (hh : Int) := by omega
        have hwh : IntKind.i64.wrap ((hh : Int) + 1) = (hh : Int) + 1 := by rw [IntKind.wrap_i64]; omega
        have hhb : i ≤ hh ∧ hh < j := by omega
        clear hhe
        obtain ⟨pc, hpc⟩ : ∃ pc : Nat, pp - hh = pc := ⟨_, rfl⟩
        have hwp : IntKind.i64.wrap ((pp : Int) - (hh : Int)) = (pc : Int) := by rw [IntKind.wrap_i64]; omega
        have hpcb : pc < n := by omega
        have hhn : hh < n := by omega
        have HPC := Lib.hid hpc
        clear hpc
        have hB := HI.out.2.2.1.kp hK hdb'
        have c0 : wr.cell? ⟨d, 0, none⟩ = some (.func (.func 62) #[] #[lp]) := hB.cell 0
        have hl := HI.out.2.2.2.2.1 wr D hIn HD.out.1 pc hh (by omega) (by omega)
        have HL := Lib.hid hl
        have HK := Lib.hid hK
        clear hl hIn hK hB
        go_wp2_with fail
        refine HL.out.mono ?_
        rintro e w3 ⟨rfl, hI3, b3⟩
        have HY := Lib.hid (And.intro hI3 (HK.out.old b3))
        obtain ⟨bb, hbb⟩ : ∃ bb, lt D[pc]! D[hh]! = bb := ⟨_, rfl⟩
        rw [hbb]
        have HB := Lib.hid hbb
        clear hI3 b3 c0 hbb
        cases bb
        · go_wp2_with fail
          go_roundw
          case rel => exact ⟨hh + 1, j, by omega, by omega, hjb, by go_num, rfl, HY.out.1, Lib.hid ⟨fun _ => by rw [show hh + 1 - 1 = hh by omega, HPC.out]; exact HB.out, hBd.out.2⟩, HY.out.2⟩
          case measure => simp [intOf]; omega
        · go_wp2_with fail
          go_roundw
          case rel => exact ⟨i, hh, hmi, by omega, by omega, rfl, rfl, HY.out.1, Lib.hid ⟨hBd.out.1, fun _ => by rw [HPC.out]; exact HB.out⟩, HY.out.2⟩
          case measure => simp [intOf]; omega
      · have hdd : decide ((i : Int) < (j : Int)) = false := by rw [decide_eq_false_iff_not]; omega
        have H4 := Lib.hid (And.intro hIn hK)
        have hij2 : i = j := by omega
        subst hij2
        obtain ⟨en, hen⟩ : ∃ en : Nat, mid + m - i = en := ⟨_, rfl⟩
        have hwe : IntKind.i64.wrap ((nn : Int) - (i : Int)) = (en : Int) := by rw [IntKind.wrap_i64]; omega
        have hsb : i + en = mid + m := by omega
        have HE1 : Hid (a < i → en < b → lt D[en]! D[i - 1]! = false) := Lib.hid fun h3 h4 => by
          have := hBd.out.1 (by omega)
          rw [show pp - (i - 1) = en by omega] at this; exact this
        have HE2 : Hid (i < m → m < en → lt D[en - 1]! D[i]! = true) := Lib.hid fun h3 h4 => by
          have := hBd.out.2 (by omega)
          rw [show pp - i = en - 1 by omega] at this; exact this
        clear hIn hK hen
        by_cases hc : i < m
        · have hcb : decide ((i : Int) < (m : Int)) = true := by rw [decide_eq_true_eq]; omega
          by_cases hc2 : m < en
          · have hcb2 : decide ((m : Int) < (en : Int)) = true := by rw [decide_eq_true_eq]; omega
            have c0 : _ = some (Value.func (.func 62) #[] #[lp]) := (HI.out.2.2.1.kp H4.out.2 hdb').cell 0
            have c1 : _ = some (Value.func (.func 88) #[] #[s1, s2]) := (HI.out.2.2.1.kp H4.out.2 hdb').cell 1
            have hcall := rotate_eq lp s1 s2 blk n R HI.out.2.2.2.2.2 HI.out.2.2.2.1 i m en (by omega) (by omega) (by omega) hn _ D H4.out.1 HD.out.1 (Nat.lt_of_lt_of_le hbV H4.out.2.size)
            have HCL := Lib.hid hcall
            clear hcall
            go_wp2_with fail
            refine HCL.out.mono ?_
            rintro e w5 ⟨rfl, ⟨D1, hI5, hp1, hr1⟩, k5⟩
            have G1 := Lib.hid (And.intro (permIn_mono D D1 i en a b (by omega) (by omega) (by have e := HD.out.1; omega) hp1) hr1)
            clear hp1 hr1
            have H5 := Lib.hid (And.intro hI5 (H4.out.2.trans k5))
            clear hI5 k5 c0 c1 H4 HCL hcb hcb2
            have H4 := H5
            clear H5
            have r := rot_runs (lt := lt) (a := a) (b := b) (d := D) (by omega) (by omega) (by omega) HD.out.2.1 HD.out.2.2 G1.out.2
            have r1 := Lib.hid r.1
            have r2 := Lib.hid (r.2.1 (by omega))
            have r3 := Lib.hid (r.2.2.1 (by omega))
            have r4 := Lib.hid r.2.2.2
            rw [show i + (en - m) = mid by omega] at r2 r3
            clear r
            by_cases hc : a < i
            · have hcb : decide ((a : Int) < (i : Int)) = true := by rw [decide_eq_true_eq]; omega
              by_cases hc2 : i < mid
              · have hcb2 : decide ((i : Int) < (mid : Int)) = true := by rw [decide_eq_true_eq]; omega
                have c0 : _ = some (Value.func (.func 62) #[] #[lp]) := (HI.out.2.2.1.kp H4.out.2 hdb').cell 0
                have c1 : _ = some (Value.func (.func 88) #[] #[s1, s2]) := (HI.out.2.2.1.kp H4.out.2 hdb').cell 1
                have hcall := IH.out a i mid (by omega) (by omega) (by omega) (by omega) _ _ H4.out.1 (G1.out.1.1.trans HD.out.1) r1.out r2.out (Nat.lt_of_lt_of_le hbV H4.out.2.size)
                have HCL := Lib.hid hcall
                clear hcall
                go_wp2_with fail
                refine HCL.out.mono ?_
                rintro e w5 ⟨rfl, ⟨D2, hI5, hp2, hs2⟩, k5⟩
                have G2 := Lib.hid (And.intro hp2 hs2)
                clear hp2 hs2
                have H5 := Lib.hid (And.intro hI5 (H4.out.2.trans k5))
                clear hI5 k5 c0 c1 H4 HCL hcb hcb2
                have H4 := H5
                clear H5
                by_cases hc : mid < en
                · have hcb : decide ((mid : Int) < (en : Int)) = true := by rw [decide_eq_true_eq]; omega
                  by_cases hc2 : en < b
                  · have hcb2 : decide ((en : Int) < (b : Int)) = true := by rw [decide_eq_true_eq]; omega
                    have c0 : _ = some (Value.func (.func 62) #[] #[lp]) := (HI.out.2.2.1.kp H4.out.2 hdb').cell 0
                    have c1 : _ = some (Value.func (.func 88) #[] #[s1, s2]) := (HI.out.2.2.1.kp H4.out.2 hdb').cell 1
                    have hcall := IH.out mid en b (by omega) (by omega) (by omega) (by omega) _ _ H4.out.1 (G2.out.1.1.trans (G1.out.1.1.trans HD.out.1)) (SortedIn.congr r3.out fun z hz1 hz2 => G2.out.1.2.1 z (Or.inr hz1)) (SortedIn.congr r4.out fun z hz1 hz2 => G2.out.1.2.1 z (Or.inr (by omega))) (Nat.lt_of_lt_of_le hbV H4.out.2.size)
                    have HCL := Lib.hid hcall
                    clear hcall
                    go_wp2_with fail
                    refine HCL.out.mono ?_
                    rintro e w5 ⟨rfl, ⟨D3, hI5, hp3, hs3⟩, k5⟩
                    have G3 := Lib.hid (And.intro hp3 hs3)
                    clear hp3 hs3
                    have H5 := Lib.hid (And.intro hI5 (H4.out.2.trans k5))
                    clear hI5 k5 c0 c1 H4 HCL hcb hcb2
                    have H4 := H5
                    clear H5
                    go_wp2_with fail
                    go_end0
                    exact ⟨rfl, ⟨_, H4.out.1, merge_end hO HD.out.1 hb (by omega) (by omega) (by omega) (by omega) (by omega) HD.out.2.1 HD.out.2.2 HE1 HE2 G1.out.1 G1.out.2 G2.out.1 G2.out.2 G3.out.1 G3.out.2⟩, (Kp.of_below HI.out.2.1 [blk]).trans H4.out.2⟩
                  · have hcb2 : decide ((en : Int) < (b : Int)) = false := by rw [decide_eq_false_iff_not]; omega
                    have G3 := Lib.hid (g_skip3 (b := b) H4.out.1 G2.out.1 (sorted_join (by omega) r3.out r4.out))
                    go_wp2_with fail
                    go_end0
                    exact ⟨rfl, ⟨_, H4.out.1, merge_end hO HD.out.1 hb (by omega) (by omega) (by omega) (by omega) (by omega) HD.out.2.1 HD.out.2.2 HE1 HE2 G1.out.1 G1.out.2 G2.out.1 G2.out.2 G3.out.1 G3.out.2⟩, (Kp.of_below HI.out.2.1 [blk]).trans H4.out.2⟩
                · have hcb : decide ((mid : Int) < (en : Int)) = false := by rw [decide_eq_false_iff_not]; omega
                  have G3 := Lib.hid (g_skip3 (b := b) H4.out.1 G2.out.1 (sorted_join (by omega) r3.out r4.out))
                  go_wp2_with fail
                  go_end0
                  exact ⟨rfl, ⟨_, H4.out.1, merge_end hO HD.out.1 hb (by omega) (by omega) (by omega) (by omega) (by omega) HD.out.2.1 HD.out.2.2 HE1 HE2 G1.out.1 G1.out.2 G2.out.1 G2.out.2 G3.out.1 G3.out.2⟩, (Kp.of_below HI.out.2.1 [blk]).trans H4.out.2⟩
              · have hcb2 : decide ((i : Int) < (mid : Int)) = false := by rw [decide_eq_false_iff_not]; omega
                have G2 := Lib.hid (g_skip2 H4.out.1 (sorted_join (by omega) r1.out r2.out))
                by_cases hc : mid < en
                · have hcb : decide ((mid : Int) < (en : Int)) = true := by rw [decide_eq_true_eq]; omega
                  by_cases hc2 : en < b
                  · have hcb2 : decide ((en : Int) < (b : Int)) = true := by rw [decide_eq_true_eq]; omega
                    have c0 : _ = some (Value.func (.func 62) #[] #[lp]) := (HI.out.2.2.1.kp H4.out.2 hdb').cell 0
                    have c1 : _ = some (Value.func (.func 88) #[] #[s1, s2]) := (HI.out.2.2.1.kp H4.out.2 hdb').cell 1
                    have hcall := IH.out mid en b (by omega) (by omega) (by omega) (by omega) _ _ H4.out.1 (G2.out.1.1.trans (G1.out.1.1.trans HD.out.1)) (SortedIn.congr r3.out fun z hz1 hz2 => G2.out.1.2.1 z (Or.inr hz1)) (SortedIn.congr r4.out fun z hz1 hz2 => G2.out.1.2.1 z (Or.inr (by omega))) (Nat.lt_of_lt_of_le hbV H4.out.2.size)
                    have HCL := Lib.hid hcall
                    clear hcall
                    go_wp2_with fail
                    refine HCL.out.mono ?_
                    rintro e w5 ⟨rfl, ⟨D3, hI5, hp3, hs3⟩, k5⟩
                    have G3 := Lib.hid (And.intro hp3 hs3)
                    clear hp3 hs3
                    have H5 := Lib.hid (And.intro hI5 (H4.out.2.trans k5))
                    clear hI5 k5 c0 c1 H4 HCL hcb hcb2
                    have H4 := H5
                    clear H5
                    go_wp2_with fail
                    go_end0
                    exact ⟨rfl, ⟨_, H4.out.1, merge_end hO HD.out.1 hb (by omega) (by omega) (by omega) (by omega) (by omega) HD.out.2.1 HD.out.2.2 HE1 HE2 G1.out.1 G1.out.2 G2.out.1 G2.out.2 G3.out.1 G3.out.2⟩, (Kp.of_below HI.out.2.1 [blk]).trans H4.out.2⟩
                  · have hcb2 : decide ((en : Int) < (b : Int)) = false := by rw [decide_eq_false_iff_not]; omega
                    have G3 := Lib.hid (g_skip3 (b := b) H4.out.1 G2.out.1 (sorted_join (by omega) r3.out r4.out))
                    go_wp2_with fail
                    go_end0
                    exact ⟨rfl, ⟨_, H4.out.1, merge_end hO HD.out.1 hb (by omega) (by omega) (by omega) (by omega) (by omega) HD.out.2.1 HD.out.2.2 HE1 HE2 G1.out.1 G1.out.2 G2.out.1 G2.out.2 G3.out.1 G3.out.2⟩, (Kp.of_below HI.out.2.1 [blk]).trans H4.out.2⟩
                · have hcb : decide ((mid : Int) < (en : Int)) = false := by rw [decide_eq_false_iff_not]; omega
                  have G3 := Lib.hid (g_skip3 (b := b) H4.out.1 G2.out.1 (sorted_join (by omega) r3.out r4.out))
                  go_wp2_with fail
                  go_end0
                  exact ⟨rfl, ⟨_, H4.out.1, merge_end hO HD.out.1 hb (by omega) (by omega) (by omega) (by omega) (by omega) HD.out.2.1 HD.out.2.2 HE1 HE2 G1.out.1 G1.out.2 G2.out.1 G2.out.2 G3.out.1 G3.out.2⟩, (Kp.of_below HI.out.2.1 [blk]).trans H4.out.2⟩
            · have hcb : decide ((a : Int) < (i : Int)) = false := by rw [decide_eq_false_iff_not]; omega
              have G2 := Lib.hid (g_skip2 H4.out.1 (sorted_join (by omega) r1.out r2.out))
              by_cases hc : mid < en
              · have hcb : decide ((mid : Int) < (en : Int)) = true := by rw [decide_eq_true_eq]; omega
                by_cases hc2 : en < b
                · have hcb2 : decide ((en : Int) < (b : Int)) = true := by rw [decide_eq_true_eq]; omega
                  have c0 : _ = some (Value.func (.func 62) #[] #[lp]) := (HI.out.2.2.1.kp H4.out.2 hdb').cell 0
                  have c1 : _ = some (Value.func (.func 88) #[] #[s1, s2]) := (HI.out.2.2.1.kp H4.out.2 hdb').cell 1
                  have hcall := IH.out mid en b (by omega) (by omega) (by omega) (by omega) _ _ H4.out.1 (G2.out.1.1.trans (G1.out.1.1.trans HD.out.1)) (SortedIn.congr r3.out fun z hz1 hz2 => G2.out.1.2.1 z (Or.inr hz1)) (SortedIn.congr r4.out fun z hz1 hz2 => G2.out.1.2.1 z (Or.inr (by omega))) (Nat.lt_of_lt_of_le hbV H4.out.2.size)
                  have HCL := Lib.hid hcall
                  clear hcall
                  go_wp2_with fail
                  refine HCL.out.mono ?_
                  rintro e w5 ⟨rfl, ⟨D3, hI5, hp3, hs3⟩, k5⟩
                  have G3 := Lib.hid (And.intro hp3 hs3)
                  clear hp3 hs3
                  have H5 := Lib.hid (And.intro hI5 (H4.out.2.trans k5))
                  clear hI5 k5 c0 c1 H4 HCL hcb hcb2
                  have H4 := H5
                  clear H5
                  go_wp2_with fail
                  go_end0
                  exact ⟨rfl, ⟨_, H4.out.1, merge_end hO HD.out.1 hb (by omega) (by omega) (by omega) (by omega) (by omega) HD.out.2.1 HD.out.2.2 HE1 HE2 G1.out.1 G1.out.2 G2.out.1 G2.out.2 G3.out.1 G3.out.2⟩, (Kp.of_below HI.out.2.1 [blk]).trans H4.out.2⟩
                · have hcb2 : decide ((en : Int) < (b : Int)) = false := by rw [decide_eq_false_iff_not]; omega
                  have G3 := Lib.hid (g_skip3 (b := b) H4.out.1 G2.out.1 (sorted_join (by omega) r3.out r4.out))
                  go_wp2_with fail
                  go_end0
                  exact ⟨rfl, ⟨_, H4.out.1, merge_end hO HD.out.1 hb (by omega) (by omega) (by omega) (by omega) (by omega) HD.out.2.1 HD.out.2.2 HE1 HE2 G1.out.1 G1.out.2 G2.out.1 G2.out.2 G3.out.1 G3.out.2⟩, (Kp.of_below HI.out.2.1 [blk]).trans H4.out.2⟩
              · have hcb : decide ((mid : Int) < (en : Int)) = false := by rw [decide_eq_false_iff_not]; omega
                have G3 := Lib.hid (g_skip3 (b := b) H4.out.1 G2.out.1 (sorted_join (by omega) r3.out r4.out))
                go_wp2_with fail
                go_end0
                exact ⟨rfl, ⟨_, H4.out.1, merge_end hO HD.out.1 hb (by omega) (by omega) (by omega) (by omega) (by omega) HD.out.2.1 HD.out.2.2 HE1 HE2 G1.out.1 G1.out.2 G2.out.1 G2.out.2 G3.out.1 G3.out.2⟩, (Kp.of_below HI.out.2.1 [blk]).trans H4.out.2⟩
          · have hcb2 : decide ((m : Int) < (en : Int)) = false := by rw [decide_eq_false_iff_not]; omega
            have G1 := Lib.hid (And.intro (permIn_refl D a b) (rot_id D i m en (by omega) (by omega) (by omega)))
            have r := rot_runs (lt := lt) (a := a) (b := b) (d := D) (by omega) (by omega) (by omega) HD.out.2.1 HD.out.2.2 G1.out.2
            have r1 := Lib.hid r.1
            have r2 := Lib.hid (r.2.1 (by omega))
            have r3 := Lib.hid (r.2.2.1 (by omega))
            have r4 := Lib.hid r.2.2.2
            rw [show i + (en - m) = mid by omega] at r2 r3
            clear r
            by_cases hc : a < i
            · have hcb : decide ((a : Int) < (i : Int)) = true := by rw [decide_eq_true_eq]; omega
              by_cases hc2 : i < mid
              · have hcb2 : decide ((i : Int) < (mid : Int)) = true := by rw [decide_eq_true_eq]; omega
                have c0 : _ = some (Value.func (.func 62) #[] #[lp]) := (HI.out.2.2.1.kp H4.out.2 hdb').cell 0
                have c1 : _ = some (Value.func (.func 88) #[] #[s1, s2]) := (HI.out.2.2.1.kp H4.out.2 hdb').cell 1
                have hcall := IH.out a i mid (by omega) (by omega) (by omega) (by omega) _ _ H4.out.1 (G1.out.1.1.trans HD.out.1) r1.out r2.out (Nat.lt_of_lt_of_le hbV H4.out.2.size)
                have HCL := Lib.hid hcall
                clear hcall
                go_wp2_with fail
                refine HCL.out.mono ?_
                rintro e w5 ⟨rfl, ⟨D2, hI5, hp2, hs2⟩, k5⟩
                have G2 := Lib.hid (And.intro hp2 hs2)
                clear hp2 hs2
                have H5 := Lib.hid (And.intro hI5 (H4.out.2.trans k5))
                clear hI5 k5 c0 c1 H4 HCL hcb hcb2
                have H4 := H5
                clear H5
                by_cases hc : mid < en
                · have hcb : decide ((mid : Int) < (en : Int)) = true := by rw [decide_eq_true_eq]; omega
                  by_cases hc2 : en < b
                  · have hcb2 : decide ((en : Int) < (b : Int)) = true := by rw [decide_eq_true_eq]; omega
                    have c0 : _ = some (Value.func (.func 62) #[] #[lp]) := (HI.out.2.2.1.kp H4.out.2 hdb').cell 0
                    have c1 : _ = some (Value.func (.func 88) #[] #[s1, s2]) := (HI.out.2.2.1.kp H4.out.2 hdb').cell 1
                    have hcall := IH.out mid en b (by omega) (by omega) (by omega) (by omega) _ _ H4.out.1 (G2.out.1.1.trans (G1.out.1.1.trans HD.out.1)) (SortedIn.congr r3.out fun z hz1 hz2 => G2.out.1.2.1 z (Or.inr hz1)) (SortedIn.congr r4.out fun z hz1 hz2 => G2.out.1.2.1 z (Or.inr (by omega))) (Nat.lt_of_lt_of_le hbV H4.out.2.size)
                    have HCL := Lib.hid hcall
                    clear hcall
                    go_wp2_with fail
                    refine HCL.out.mono ?_
                    rintro e w5 ⟨rfl, ⟨D3, hI5, hp3, hs3⟩, k5⟩
                    have G3 := Lib.hid (And.intro hp3 hs3)
                    clear hp3 hs3
                    have H5 := Lib.hid (And.intro hI5 (H4.out.2.trans k5))
                    clear hI5 k5 c0 c1 H4 HCL hcb hcb2
                    have H4 := H5
                    clear H5
                    go_wp2_with fail
                    go_end0
                    exact ⟨rfl, ⟨_, H4.out.1, merge_end hO HD.out.1 hb (by omega) (by omega) (by omega) (by omega) (by omega) HD.out.2.1 HD.out.2.2 HE1 HE2 G1.out.1 G1.out.2 G2.out.1 G2.out.2 G3.out.1 G3.out.2⟩, (Kp.of_below HI.out.2.1 [blk]).trans H4.out.2⟩
                  · have hcb2 : decide ((en : Int) < (b : Int)) = false := by rw [decide_eq_false_iff_not]; omega
                    have G3 := Lib.hid (g_skip3 (b := b) H4.out.1 G2.out.1 (sorted_join (by omega) r3.out r4.out))
                    go_wp2_with fail
                    go_end0
                    exact ⟨rfl, ⟨_, H4.out.1, merge_end hO HD.out.1 hb (by omega) (by omega) (by omega) (by omega) (by omega) HD.out.2.1 HD.out.2.2 HE1 HE2 G1.out.1 G1.out.2 G2.out.1 G2.out.2 G3.out.1 G3.out.2⟩, (Kp.of_below HI.out.2.1 [blk]).trans H4.out.2⟩
                · have hcb : decide ((mid : Int) < (en : Int)) = false := by rw [decide_eq_false_iff_not]; omega
                  have G3 := Lib.hid (g_skip3 (b := b) H4.out.1 G2.out.1 (sorted_join (by omega) r3.out r4.out))
                  go_wp2_with fail
                  go_end0
                  exact ⟨rfl, ⟨_, H4.out.1, merge_end hO HD.out.1 hb (by omega) (by omega) (by omega) (by omega) (by omega) HD.out.2.1 HD.out.2.2 HE1 HE2 G1.out.1 G1.out.2 G2.out.1 G2.out.2 G3.out.1 G3.out.2⟩, (Kp.of_below HI.out.2.1 [blk]).trans H4.out.2⟩
              · have hcb2 : decide ((i : Int) < (mid : Int)) = false := by rw [decide_eq_false_iff_not]; omega
                have G2 := Lib.hid (g_skip2 H4.out.1 (sorted_join (by omega) r1.out r2.out))
                by_cases hc : mid < en
                · have hcb : decide ((mid : Int) < (en : Int)) = true := by rw [decide_eq_true_eq]; omega
                  by_cases hc2 : en < b
                  · have hcb2 : decide ((en : Int) < (b : Int)) = true := by rw [decide_eq_true_eq]; omega
                    have c0 : _ = some (Value.func (.func 62) #[] #[lp]) := (HI.out.2.2.1.kp H4.out.2 hdb').cell 0
                    have c1 : _ = some (Value.func (.func 88) #[] #[s1, s2]) := (HI.out.2.2.1.kp H4.out.2 hdb').cell 1
                    have hcall := IH.out mid en b (by omega) (by omega) (by omega) (by omega) _ _ H4.out.1 (G2.out.1.1.trans (G1.out.1.1.trans HD.out.1)) (SortedIn.congr r3.out fun z hz1 hz2 => G2.out.1.2.1 z (Or.inr hz1)) (SortedIn.congr r4.out fun z hz1 hz2 => G2.out.1.2.1 z (Or.inr (by omega))) (Nat.lt_of_lt_of_le hbV H4.out.2.size)
                    have HCL := Lib.hid hcall
                    clear hcall
                    go_wp2_with fail
                    refine HCL.out.mono ?_
                    rintro e w5 ⟨rfl, ⟨D3, hI5, hp3, hs3⟩, k5⟩
                    have G3 := Lib.hid (And.intro hp3 hs3)
                    clear hp3 hs3
                    have H5 := Lib.hid (And.intro hI5 (H4.out.2.trans k5))
                    clear hI5 k5 c0 c1 H4 HCL hcb hcb2
                    have H4 := H5
                    clear H5
                    go_wp2_with fail
                    go_end0
                    exact ⟨rfl, ⟨_, H4.out.1, merge_end hO HD.out.1 hb (by omega) (by omega) (by omega) (by omega) (by omega) HD.out.2.1 HD.out.2.2 HE1 HE2 G1.out.1 G1.out.2 G2.out.1 G2.out.2 G3.out.1 G3.out.2⟩, (Kp.of_below HI.out.2.1 [blk]).trans H4.out.2⟩
                  · have hcb2 : decide ((en : Int) < (b : Int)) = false := by rw [decide_eq_false_iff_not]; omega
                    have G3 := Lib.hid (g_skip3 (b := b) H4.out.1 G2.out.1 (sorted_join (by omega) r3.out r4.out))
                    go_wp2_with fail
                    go_end0
                    exact ⟨rfl, ⟨_, H4.out.1, merge_end hO HD.out.1 hb (by omega) (by omega) (by omega) (by omega) (by omega) HD.out.2.1 HD.out.2.2 HE1 HE2 G1.out.1 G1.out.2 G2.out.1 G2.out.2 G3.out.1 G3.out.2⟩, (Kp.of_below HI.out.2.1 [blk]).trans H4.out.2⟩
                · have hcb : decide ((mid : Int) < (en : Int)) = false := by rw [decide_eq_false_iff_not]; omega
                  have G3 := Lib.hid (g_skip3 (b := b) H4.out.1 G2.out.1 (sorted_join (by omega) r3.out r4.out))
                  go_wp2_with fail
                  go_end0
                  exact ⟨rfl, ⟨_, H4.out.1, merge_end hO HD.out.1 hb (by omega) (by omega) (by omega) (by omega) (by omega) HD.out.2.1 HD.out.2.2 HE1 HE2 G1.out.1 G1.out.2 G2.out.1 G2.out.2 G3.out.1 G3.out.2⟩, (Kp.of_below HI.out.2.1 [blk]).trans H4.out.2⟩
            · have hcb : decide ((a : Int) < (i : Int)) = false := by rw [decide_eq_false_iff_not]; omega
              have G2 := Lib.hid (g_skip2 H4.out.1 (sorted_join (by omega) r1.out r2.out))
              by_cases hc : mid < en
              · have hcb : decide ((mid : Int) < (en : Int)) = true := by rw [decide_eq_true_eq]; omega
                by_cases hc2 : en < b
                · have hcb2 : decide ((en : Int) < (b : Int)) = true := by rw [decide_eq_true_eq]; omega
                  have c0 : _ = some (Value.func (.func 62) #[] #[lp]) := (HI.out.2.2.1.kp H4.out.2 hdb').cell 0
                  have c1 : _ = some (Value.func (.func 88) #[] #[s1, s2]) := (HI.out.2.2.1.kp H4.out.2 hdb').cell 1
                  have hcall := IH.out mid en b (by omega) (by omega) (by omega) (by omega) _ _ H4.out.1 (G2.out.1.1.trans (G1.out.1.1.trans HD.out.1)) (SortedIn.congr r3.out fun z hz1 hz2 => G2.out.1.2.1 z (Or.inr hz1)) (SortedIn.congr r4.out fun z hz1 hz2 => G2.out.1.2.1 z (Or.inr (by omega))) (Nat.lt_of_lt_of_le hbV H4.out.2.size)
                  have HCL := Lib.hid hcall
                  clear hcall
                  go_wp2_with fail
                  refine HCL.out.mono ?_
                  rintro e w5 ⟨rfl, ⟨D3, hI5, hp3, hs3⟩, k5⟩
                  have G3 := Lib.hid (And.intro hp3 hs3)
                  clear hp3 hs3
                  have H5 := Lib.hid (And.intro hI5 (H4.out.2.trans k5))
                  clear hI5 k5 c0 c1 H4 HCL hcb hcb2
                  have H4 := H5
                  clear H5
                  go_wp2_with fail
                  go_end0
                  exact ⟨rfl, ⟨_, H4.out.1, merge_end hO HD.out.1 hb (by omega) (by omega) (by omega) (by omega) (by omega) HD.out.2.1 HD.out.2.2 HE1 HE2 G1.out.1 G1.out.2 G2.out.1 G2.out.2 G3.out.1 G3.out.2⟩, (Kp.of_below HI.out.2.1 [blk]).trans H4.out.2⟩
                · have hcb2 : decide ((en : Int) < (b : Int)) = false := by rw [decide_eq_false_iff_not]; omega
                  have G3 := Lib.hid (g_skip3 (b := b) H4.out.1 G2.out.1 (sorted_join (by omega) r3.out r4.out))
                  go_wp2_with fail
                  go_end0
                  exact ⟨rfl, ⟨_, H4.out.1, merge_end hO HD.out.1 hb (by omega) (by omega) (by omega) (by omega) (by omega) HD.out.2.1 HD.out.2.2 HE1 HE2 G1.out.1 G1.out.2 G2.out.1 G2.out.2 G3.out.1 G3.out.2⟩, (Kp.of_below HI.out.2.1 [blk]).trans H4.out.2⟩
              · have hcb : decide ((mid : Int) < (en : Int)) = false := by rw [decide_eq_false_iff_not]; omega
                have G3 := Lib.hid (g_skip3 (b := b) H4.out.1 G2.out.1 (sorted_join (by omega) r3.out r4.out))
                go_wp2_with fail
                go_end0
                exact ⟨rfl, ⟨_, H4.out.1, merge_end hO HD.out.1 hb (by omega) (by omega) (by omega) (by omega) (by omega) HD.out.2.1 HD.out.2.2 HE1 HE2 G1.out.1 G1.out.2 G2.out.1 G2.out.2 G3.out.1 G3.out.2⟩, (Kp.of_below HI.out.2.1 [blk]).trans H4.out.2⟩
        · have hcb : decide ((i : Int) < (m : Int)) = false := by rw [decide_eq_false_iff_not]; omega
          have G1 := Lib.hid (And.intro (permIn_refl D a b) (rot_id D i m en (by omega) (by omega) (by omega)))
          have r := rot_runs (lt := lt) (a := a) (b := b) (d := D) (by omega) (by omega) (by omega) HD.out.2.1 HD.out.2.2 G1.out.2
          have r1 := Lib.hid r.1
          have r2 := Lib.hid (r.2.1 (by omega))
          have r3 := Lib.hid (r.2.2.1 (by omega))
          have r4 := Lib.hid r.2.2.2
          rw [show i + (en - m) = mid by omega] at r2 r3
          clear r
          by_cases hc : a < i
          · have hcb : decide ((a : Int) < (i : Int)) = true := by rw [decide_eq_true_eq]; omega
            by_cases hc2 : i < mid
            · have hcb2 : decide ((i : Int) < (mid : Int)) = true := by rw [decide_eq_true_eq]; omega
              have c0 : _ = some (Value.func (.func 62) #[] #[lp]) := (HI.out.2.2.1.kp H4.out.2 hdb').cell 0
              have c1 : _ = some (Value.func (.func 88) #[] #[s1, s2]) := (HI.out.2.2.1.kp H4.out.2 hdb').cell 1
              have hcall := IH.out a i mid (by omega) (by omega) (by omega) (by omega) _ _ H4.out.1 (G1.out.1.1.trans HD.out.1) r1.out r2.out (Nat.lt_of_lt_of_le hbV H4.out.2.size)
              have HCL := Lib.hid hcall
              clear hcall
              go_wp2_with fail
              refine HCL.out.mono ?_
              rintro e w5 ⟨rfl, ⟨D2, hI5, hp2, hs2⟩, k5⟩
              have G2 := Lib.hid (And.intro hp2 hs2)
              clear hp2 hs2
              have H5 := Lib.hid (And.intro hI5 (H4.out.2.trans k5))
              clear hI5 k5 c0 c1 H4 HCL hcb hcb2
              have H4 := H5
              clear H5
              by_cases hc : mid < en
              · have hcb : decide ((mid : Int) < (en : Int)) = true := by rw [decide_eq_true_eq]; omega
                by_cases hc2 : en < b
                · have hcb2 : decide ((en : Int) < (b : Int)) = true := by rw [decide_eq_true_eq]; omega
                  have c0 : _ = some (Value.func (.func 62) #[] #[lp]) := (HI.out.2.2.1.kp H4.out.2 hdb').cell 0
                  have c1 : _ = some (Value.func (.func 88) #[] #[s1, s2]) := (HI.out.2.2.1.kp H4.out.2 hdb').cell 1
                  have hcall := IH.out mid en b (by omega) (by omega) (by omega) (by omega) _ _ H4.out.1 (G2.out.1.1.trans (G1.out.1.1.trans HD.out.1)) (SortedIn.congr r3.out fun z hz1 hz2 => G2.out.1.2.1 z (Or.inr hz1)) (SortedIn.congr r4.out fun z hz1 hz2 => G2.out.1.2.1 z (Or.inr (by omega))) (Nat.lt_of_lt_of_le hbV H4.out.2.size)
                  have HCL := Lib.hid hcall
                  clear hcall
                  go_wp2_with fail
                  refine HCL.out.mono ?_
                  rintro e w5 ⟨rfl, ⟨D3, hI5, hp3, hs3⟩, k5⟩
                  have G3 := Lib.hid (And.intro hp3 hs3)
                  clear hp3 hs3
                  have H5 := Lib.hid (And.intro hI5 (H4.out.2.trans k5))
                  clear hI5 k5 c0 c1 H4 HCL hcb hcb2
                  have H4 := H5
                  clear H5
                  go_wp2_with fail
                  go_end0
                  exact ⟨rfl, ⟨_, H4.out.1, merge_end hO HD.out.1 hb (by omega) (by omega) (by omega) (by omega) (by omega) HD.out.2.1 HD.out.2.2 HE1 HE2 G1.out.1 G1.out.2 G2.out.1 G2.out.2 G3.out.1 G3.out.2⟩, (Kp.of_below HI.out.2.1 [blk]).trans H4.out.2⟩
                · have hcb2 : decide ((en : Int) < (b : Int)) = false := by rw [decide_eq_false_iff_not]; omega
                  have G3 := Lib.hid (g_skip3 (b := b) H4.out.1 G2.out.1 (sorted_join (by omega) r3.out r4.out))
                  go_wp2_with fail
                  go_end0
                  exact ⟨rfl, ⟨_, H4.out.1, merge_end hO HD.out.1 hb (by omega) (by omega) (by omega) (by omega) (by omega) HD.out.2.1 HD.out.2.2 HE1 HE2 G1.out.1 G1.out.2 G2.out.1 G2.out.2 G3.out.1 G3.out.2⟩, (Kp.of_below HI.out.2.1 [blk]).trans H4.out.2⟩
              · have hcb : decide ((mid : Int) < (en : Int)) = false := by rw [decide_eq_false_iff_not]; omega
                have G3 := Lib.hid (g_skip3 (b := b) H4.out.1 G2.out.1 (sorted_join (by omega) r3.out r4.out))
                go_wp2_with fail
                go_end0
                exact ⟨rfl, ⟨_, H4.out.1, merge_end hO HD.out.1 hb (by omega) (by omega) (by omega) (by omega) (by omega) HD.out.2.1 HD.out.2.2 HE1 HE2 G1.out.1 G1.out.2 G2.out.1 G2.out.2 G3.out.1 G3.out.2⟩, (Kp.of_below HI.out.2.1 [blk]).trans H4.out.2⟩
            · have hcb2 : decide ((i : Int) < (mid : Int)) = false := by rw [decide_eq_false_iff_not]; omega
              have G2 := Lib.hid (g_skip2 H4.out.1 (sorted_join (by omega) r1.out r2.out))
              by_cases hc : mid < en
              · have hcb : decide ((mid : Int) < (en : Int)) = true := by rw [decide_eq_true_eq]; omega
                by_cases hc2 : en < b
                · have hcb2 : decide ((en : Int) < (b : Int)) = true := by rw [decide_eq_true_eq]; omega
                  have c0 : _ = some (Value.func (.func 62) #[] #[lp]) := (HI.out.2.2.1.kp H4.out.2 hdb').cell 0
                  have c1 : _ = some (Value.func (.func 88) #[] #[s1, s2]) := (HI.out.2.2.1.kp H4.out.2 hdb').cell 1
                  have hcall := IH.out mid en b (by omega) (by omega) (by omega) (by omega) _ _ H4.out.1 (G2.out.1.1.trans (G1.out.1.1.trans HD.out.1)) (SortedIn.congr r3.out fun z hz1 hz2 => G2.out.1.2.1 z (Or.inr hz1)) (SortedIn.congr r4.out fun z hz1 hz2 => G2.out.1.2.1 z (Or.inr (by omega))) (Nat.lt_of_lt_of_le hbV H4.out.2.size)
                  have HCL := Lib.hid hcall
                  clear hcall
                  go_wp2_with fail
                  refine HCL.out.mono ?_
                  rintro e w5 ⟨rfl, ⟨D3, hI5, hp3, hs3⟩, k5⟩
                  have G3 := Lib.hid (And.intro hp3 hs3)
                  clear hp3 hs3
                  have H5 := Lib.hid (And.intro hI5 (H4.out.2.trans k5))
                  clear hI5 k5 c0 c1 H4 HCL hcb hcb2
                  have H4 := H5
                  clear H5
                  go_wp2_with fail
                  go_end0
                  exact ⟨rfl, ⟨_, H4.out.1, merge_end hO HD.out.1 hb (by omega) (by omega) (by omega) (by omega) (by omega) HD.out.2.1 HD.out.2.2 HE1 HE2 G1.out.1 G1.out.2 G2.out.1 G2.out.2 G3.out.1 G3.out.2⟩, (Kp.of_below HI.out.2.1 [blk]).trans H4.out.2⟩
                · have hcb2 : decide ((en : Int) < (b : Int)) = false := by rw [decide_eq_false_iff_not]; omega
                  have G3 := Lib.hid (g_skip3 (b := b) H4.out.1 G2.out.1 (sorted_join (by omega) r3.out r4.out))
                  go_wp2_with fail
                  go_end0
                  exact ⟨rfl, ⟨_, H4.out.1, merge_end hO HD.out.1 hb (by omega) (by omega) (by omega) (by omega) (by omega) HD.out.2.1 HD.out.2.2 HE1 HE2 G1.out.1 G1.out.2 G2.out.1 G2.out.2 G3.out.1 G3.out.2⟩, (Kp.of_below HI.out.2.1 [blk]).trans H4.out.2⟩
              · have hcb : decide ((mid : Int) < (en : Int)) = false := by rw [decide_eq_false_iff_not]; omega
                have G3 := Lib.hid (g_skip3 (b := b) H4.out.1 G2.out.1 (sorted_join (by omega) r3.out r4.out))
                go_wp2_with fail
                go_end0
                exact ⟨rfl, ⟨_, H4.out.1, merge_end hO HD.out.1 hb (by omega) (by omega) (by omega) (by omega) (by omega) HD.out.2.1 HD.out.2.2 HE1 HE2 G1.out.1 G1.out.2 G2.out.1 G2.out.2 G3.out.1 G3.out.2⟩, (Kp.of_below HI.out.2.1 [blk]).trans H4.out.2⟩
          · have hcb : decide ((a : Int) < (i : Int)) = false := by rw [decide_eq_false_iff_not]; omega
            have G2 := Lib.hid (g_skip2 H4.out.1 (sorted_join (by omega) r1.out r2.out))
            by_cases hc : mid < en
            · have hcb : decide ((mid : Int) < (en : Int)) = true := by rw [decide_eq_true_eq]; omega
              by_cases hc2 : en < b
              · have hcb2 : decide ((en : Int) < (b : Int)) = true := by rw [decide_eq_true_eq]; omega
                have c0 : _ = some (Value.func (.func 62) #[] #[lp]) := (HI.out.2.2.1.kp H4.out.2 hdb').cell 0
                have c1 : _ = some (Value.func (.func 88) #[] #[s1, s2]) := (HI.out.2.2.1.kp H4.out.2 hdb').cell 1
                have hcall := IH.out mid en b (by omega) (by omega) (by omega) (by omega) _ _ H4.out.1 (G2.out.1.1.trans (G1.out.1.1.trans HD.out.1)) (SortedIn.congr r3.out fun z hz1 hz2 => G2.out.1.2.1 z (Or.inr hz1)) (SortedIn.congr r4.out fun z hz1 hz2 => G2.out.1.2.1 z (Or.inr (by omega))) (Nat.lt_of_lt_of_le hbV H4.out.2.size)
                have HCL := Lib.hid hcall
                clear hcall
                go_wp2_with fail
                refine HCL.out.mono ?_
                rintro e w5 ⟨rfl, ⟨D3, hI5, hp3, hs3⟩, k5⟩
                have G3 := Lib.hid (And.intro hp3 hs3)
                clear hp3 hs3
                have H5 := Lib.hid (And.intro hI5 (H4.out.2.trans k5))
                clear hI5 k5 c0 c1 H4 HCL hcb hcb2
                have H4 := H5
                clear H5
                go_wp2_with fail
                go_end0
                exact ⟨rfl, ⟨_, H4.out.1, merge_end hO HD.out.1 hb (by omega) (by omega) (by omega) (by omega) (by omega) HD.out.2.1 HD.out.2.2 HE1 HE2 G1.out.1 G1.out.2 G2.out.1 G2.out.2 G3.out.1 G3.out.2⟩, (Kp.of_below HI.out.2.1 [blk]).trans H4.out.2⟩
              · have hcb2 : decide ((en : Int) < (b : Int)) = false := by rw [decide_eq_false_iff_not]; omega
                have G3 := Lib.hid (g_skip3 (b := b) H4.out.1 G2.out.1 (sorted_join (by omega) r3.out r4.out))
                go_wp2_with fail
                go_end0
                exact ⟨rfl, ⟨_, H4.out.1, merge_end hO HD.out.1 hb (by omega) (by omega) (by omega) (by omega) (by omega) HD.out.2.1 HD.out.2.2 HE1 HE2 G1.out.1 G1.out.2 G2.out.1 G2.out.2 G3.out.1 G3.out.2⟩, (Kp.of_below HI.out.2.1 [blk]).trans H4.out.2⟩
            · have hcb : decide ((mid : Int) < (en : Int)) = false := by rw [decide_eq_false_iff_not]; omega
              have G3 := Lib.hid (g_skip3 (b := b) H4.out.1 G2.out.1 (sorted_join (by omega) r3.out r4.out))
              go_wp2_with fail
              go_end0
              exact ⟨rfl, ⟨_, H4.out.1, merge_end hO HD.out.1 hb (by omega) (by omega) (by omega) (by omega) (by omega) HD.out.2.1 HD.out.2.2 HE1 HE2 G1.out.1 G1.out.2 G2.out.1 G2.out.2 G3.out.1 G3.out.2⟩, (Kp.of_below HI.out.2.1 [blk]).trans H4.out.2⟩
end Go.Proofs.YtcljffldbnoljaaGreatDoor
