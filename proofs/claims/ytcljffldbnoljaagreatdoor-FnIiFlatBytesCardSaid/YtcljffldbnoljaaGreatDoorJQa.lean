/-
  A row that is swapped place by place: what swapping two ranges leaves, what a rotation is, and when merging by rotations leaves a sorted row. Conditions: the places lie within the row; the order is a strict weak one.
  What a rotation leaves of two sorted runs that stand one behind the other. Conditions: the order is a strict weak one; the places are found as merging by rotations finds them.
  Runs of one length, sorted, and how a pass of merging makes runs of twice the length. Conditions: the length is not 0.
-/
import Derived.Sort.LotA
import Derived.Sort.LotD3
namespace Go.Proofs.YtcljffldbnoljaaGreatDoor
open Go.Sort

/-- Places a.. and b.., k of them, swapped. -/
def swpN {α : Type} [Inhabited α] (d : Array α) (a b : Nat) : Nat → Array α
  | 0 => d
  | k + 1 => swp (swpN d a b k) (a + k) (b + k)

theorem swpN_size {α : Type} [Inhabited α] (d : Array α) (a b k : Nat) : (swpN d a b k).size = d.size := by
  induction k with
  | zero => rfl
  | succ k ih => rw [swpN, swp_size, ih]

theorem swpN_get {α : Type} [Inhabited α] (d : Array α) (a b k : Nat) (hab : a + k ≤ b) (hb : b + k ≤ d.size) (x : Nat) :
    (swpN d a b k)[x]! = if a ≤ x ∧ x < a + k then d[x - a + b]! else if b ≤ x ∧ x < b + k then d[x - b + a]! else d[x]! := by
  induction k generalizing x with
  | zero => rw [if_neg (by omega), if_neg (by omega)]; rfl
  | succ k ih =>
    have h1 := ih (by omega) (by omega)
    rw [swpN, swp_get _ (by rw [swpN_size]; omega) (by rw [swpN_size]; omega)]
    by_cases hx : x = b + k
    · subst hx
      rw [if_pos rfl, h1 (a + k), if_neg (by omega), if_neg (by omega), if_neg (by omega), if_pos (by omega)]
      congr 1; omega
    · rw [if_neg hx]
      by_cases hy : x = a + k
      · subst hy
        rw [if_pos rfl, h1 (b + k), if_neg (by omega), if_neg (by omega), if_pos (by omega)]
        congr 1; omega
      · rw [if_neg hy, h1 x]
        by_cases c1 : a ≤ x ∧ x < a + k
        · rw [if_pos c1, if_pos (by omega)]
        · rw [if_neg c1, if_neg (show ¬ (a ≤ x ∧ x < a + (k + 1)) by omega)]
          by_cases c2 : b ≤ x ∧ x < b + k
          · rw [if_pos c2, if_pos (by omega)]
          · rw [if_neg c2, if_neg (show ¬ (b ≤ x ∧ x < b + (k + 1)) by omega)]

theorem swpN_perm {α : Type} [Inhabited α] (d : Array α) (lo hi a b k : Nat) (h1 : lo ≤ a) (h2 : a + k ≤ hi) (h3 : lo ≤ b) (h4 : b + k ≤ hi) (hh : hi ≤ d.size) : PermIn lo hi d (swpN d a b k) := by
  induction k with
  | zero => exact permIn_refl _ _ _
  | succ k ih => exact permIn_trans _ _ _ _ _ (ih (by omega) (by omega)) (swp_permIn _ _ _ _ _ (by omega) (by omega) (by omega) (by omega) (by rw [swpN_size]; exact hh))

/-- d' is d with [a, m) and [m, b) changed about. -/
def RotOf {α : Type} [Inhabited α] (d d' : Array α) (a m b : Nat) : Prop :=
  d'.size = d.size ∧ ∀ x : Nat, d'[x]! = if x < a then d[x]! else if x < a + (b - m) then d[x - a + m]! else if x < b then d[x - (b - m)]! else d[x]!

theorem rot_end {α : Type} [Inhabited α] (d : Array α) (m i : Nat) (him : i ≤ m) (hb : m + i ≤ d.size) : RotOf d (swpN d (m - i) m i) (m - i) m (m + i) := by
  refine ⟨swpN_size _ _ _ _, fun x => ?_⟩
  rw [swpN_get _ _ _ _ (by omega) hb]
  by_cases c1 : x < m - i
  · rw [if_neg (by omega), if_neg (by omega), if_pos c1]
  · rw [if_neg c1]
    by_cases c2 : x < m - i + (m + i - m)
    · rw [if_pos (by omega), if_pos c2]
    · rw [if_neg (by omega), if_neg c2]
      by_cases c3 : x < m + i
      · rw [if_pos (by omega), if_pos c3]; congr 1; omega
      · rw [if_neg (by omega), if_neg c3]

theorem rot_left {α : Type} [Inhabited α] (d d' : Array α) (m i j : Nat) (hj : 0 < j) (hji : j < i) (him : i ≤ m) (hb : m + j ≤ d.size)
    (h : RotOf (swpN d (m - i) m j) d' (m - (i - j)) m (m + j)) : RotOf d d' (m - i) m (m + j) := by
  refine ⟨h.1.trans (swpN_size _ _ _ _), fun x => ?_⟩
  rw [h.2 x]
  simp only [swpN_get d (m - i) m j (by omega) hb]
  by_cases c1 : x < m - i
  · rw [if_pos (show x < m - (i - j) by omega), if_neg (by omega), if_neg (by omega), if_pos c1]
  · rw [if_neg c1]
    by_cases c2 : x < m - i + (m + j - m)
    · rw [if_pos (show x < m - (i - j) by omega), if_pos (by omega), if_pos c2]
    · rw [if_neg c2, if_neg (show ¬ x < m - (i - j) by omega)]
      by_cases c3 : x < m - (i - j) + (m + j - m)
      · rw [if_pos c3, if_neg (by omega), if_pos (by omega), if_pos (show x < m + j by omega)]; congr 1; omega
      · rw [if_neg c3]
        by_cases c4 : x < m + j
        · rw [if_pos c4, if_pos c4, if_neg (by omega), if_neg (by omega)]
        · rw [if_neg c4, if_neg c4, if_neg (by omega), if_neg (by omega)]

theorem rot_right {α : Type} [Inhabited α] (d d' : Array α) (m i j : Nat) (hi : 0 < i) (hij : i < j) (him : i ≤ m) (hb : m + j ≤ d.size)
    (h : RotOf (swpN d (m - i) (m + j - i) i) d' (m - i) m (m + (j - i))) : RotOf d d' (m - i) m (m + j) := by
  refine ⟨h.1.trans (swpN_size _ _ _ _), fun x => ?_⟩
  rw [h.2 x]
  simp only [swpN_get d (m - i) (m + j - i) i (by omega) (by omega)]
  by_cases c1 : x < m - i
  · rw [if_pos c1, if_neg (by omega), if_neg (by omega), if_pos c1]
  · rw [if_neg c1, if_neg c1]
    by_cases c2 : x < m - i + (m + (j - i) - m)
    · rw [if_pos c2, if_neg (by omega), if_pos (show x < m - i + (m + j - m) by omega)]
      by_cases c3 : m + j - i ≤ x - (m - i) + m ∧ x - (m - i) + m < m + j - i + i
      · exfalso; omega
      · rw [if_neg c3]
    · rw [if_neg c2]
      by_cases c3 : x < m + (j - i)
      · rw [if_pos c3, if_pos (by omega), if_pos (show x < m - i + (m + j - m) by omega)]; congr 1; omega
      · rw [if_neg c3]
        by_cases c4 : x < m + j
        · rw [if_neg (by omega), if_pos (by omega)]
          by_cases c5 : x < m - i + (m + j - m)
          · exfalso; omega
          · rw [if_neg c5, if_pos c4]; congr 1; omega
        · rw [if_neg (by omega), if_neg (by omega), if_neg (by omega), if_neg c4]
end Go.Proofs.YtcljffldbnoljaaGreatDoor

namespace Go.Proofs.YtcljffldbnoljaaGreatDoor
open Go.Sort

theorem le_of {α : Type} [Inhabited α] {lt : α → α → Bool} (hO : SWO lt) {a m : Nat} {d : Array α} (S : SortedIn lt a m d) {x y : Nat} (h1 : a ≤ x) (h2 : x ≤ y) (h3 : y < m) : lt d[y]! d[x]! = false := by
  rcases Nat.lt_or_ge x y with h | h
  · exact S x y h1 h h3
  · rw [show x = y by omega]; exact hO.irrefl _

theorem lt_le {α : Type} {lt : α → α → Bool} (hO : SWO lt) {x y : α} (h : lt x y = true) : lt y x = false := hO.asymm h

/-- Behind a rotation of [s, e) about m: nothing right of s + (e - m) is less than anything left of it. -/
theorem rot_cross {α : Type} [Inhabited α] {lt : α → α → Bool} (hO : SWO lt) {a s m e b : Nat} {d d' : Array α} (has : a ≤ s) (hsm : s ≤ m) (hme : m ≤ e) (heb : e ≤ b)
    (S1 : SortedIn lt a m d) (S2 : SortedIn lt m b d) (h1 : a < s → e < b → lt d[e]! d[s - 1]! = false) (h2 : s < m → m < e → lt d[e - 1]! d[s]! = true) (hR : RotOf d d' s m e)
    (x y : Nat) (hx : a ≤ x) (hxm : x < s + (e - m)) (hym : s + (e - m) ≤ y) (hyb : y < b) : lt d'[y]! d'[x]! = false := by
  rw [hR.2 x, hR.2 y, if_neg (show ¬ y < s by omega), if_neg (show ¬ y < s + (e - m) by omega)]
  by_cases cx : x < s
  · rw [if_pos cx]
    by_cases cy : y < e
    · rw [if_pos cy]; exact le_of hO S1 hx (by omega) (by omega)
    · rw [if_neg cy]
      exact hO.ntrans _ _ _ (le_of hO S2 hme (show e ≤ y by omega) hyb) (hO.ntrans _ _ _ (h1 (by omega) (by omega)) (le_of hO S1 hx (show x ≤ s - 1 by omega) (by omega)))
  · rw [if_neg cx, if_pos hxm]
    by_cases cy : y < e
    · rw [if_pos cy]
      have hlt := lt_le hO (h2 (by omega) (by omega))
      exact hO.ntrans _ _ _ (le_of hO S1 has (show s ≤ y - (e - m) by omega) (by omega)) (hO.ntrans _ _ _ hlt (le_of hO S2 (show m ≤ x - s + m by omega) (show x - s + m ≤ e - 1 by omega) (by omega)))
    · rw [if_neg cy]; exact le_of hO S2 (by omega) (by omega) hyb

theorem rot_runs {α : Type} [Inhabited α] {lt : α → α → Bool} {a s m e b : Nat} {d d' : Array α} (hsm : s ≤ m) (hme : m ≤ e) (heb : e ≤ b)
    (S1 : SortedIn lt a m d) (S2 : SortedIn lt m b d) (hR : RotOf d d' s m e) : SortedIn lt a s d' ∧ (a ≤ s → SortedIn lt s (s + (e - m)) d') ∧ (a ≤ s → SortedIn lt (s + (e - m)) e d') ∧ SortedIn lt e b d' := by
  refine ⟨fun i j hi hij hj => ?_, fun has i j hi hij hj => ?_, fun has i j hi hij hj => ?_, fun i j hi hij hj => ?_⟩
  · rw [hR.2 i, hR.2 j, if_pos (show i < s by omega), if_pos hj]; exact S1 i j hi hij (by omega)
  · rw [hR.2 i, hR.2 j, if_neg (show ¬ i < s by omega), if_neg (show ¬ j < s by omega), if_pos (show i < s + (e - m) by omega), if_pos hj]; exact S2 _ _ (by omega) (by omega) (by omega)
  · rw [hR.2 i, hR.2 j, if_neg (show ¬ i < s by omega), if_neg (show ¬ j < s by omega), if_neg (show ¬ i < s + (e - m) by omega), if_neg (show ¬ j < s + (e - m) by omega), if_pos (show i < e by omega), if_pos hj]; exact S1 _ _ (by omega) (by omega) (by omega)
  · rw [hR.2 i, hR.2 j, if_neg (show ¬ i < s by omega), if_neg (show ¬ j < s by omega), if_neg (show ¬ i < s + (e - m) by omega), if_neg (show ¬ j < s + (e - m) by omega), if_neg (show ¬ i < e by omega), if_neg (show ¬ j < e by omega)]; exact S2 _ _ (by omega) (by omega) (by omega)

theorem rot_id {α : Type} [Inhabited α] (d : Array α) (s m e : Nat) (hsm : s ≤ m) (hme : m ≤ e) (h : s = m ∨ m = e) : RotOf d d s m e := by
  refine ⟨rfl, fun x => ?_⟩
  by_cases c1 : x < s
  · rw [if_pos c1]
  · rw [if_neg c1]
    by_cases c2 : x < s + (e - m)
    · rw [if_pos c2, show x - s + m = x by omega]
    · rw [if_neg c2]
      by_cases c3 : x < e
      · rw [if_pos c3, show x - (e - m) = x by omega]
      · rw [if_neg c3]

/-- Two sorted parts, nothing in the second less than anything in the first. -/
theorem glue2 {α : Type} [Inhabited α] {lt : α → α → Bool} {a mid b : Nat} {d d1 d2 : Array α} (h1 : a ≤ mid) (h2 : mid ≤ b) (hb : b ≤ d.size)
    (hc : ∀ x y, a ≤ x → x < mid → mid ≤ y → y < b → lt d[y]! d[x]! = false) (P1 : PermIn a mid d d1) (S1 : SortedIn lt a mid d1) (P2 : PermIn mid b d1 d2) (S2 : SortedIn lt mid b d2) :
    PermIn a b d d2 ∧ SortedIn lt a b d2 := by
  have hs1 := P1.1
  have P : PermIn a b d d2 := permIn_trans _ _ _ _ _ (permIn_mono _ _ _ _ _ _ (Nat.le_refl _) h2 (by omega) P1) (permIn_mono _ _ _ _ _ _ h1 (Nat.le_refl _) (by omega) P2)
  have c1 : ∀ x y, a ≤ x → x < mid → mid ≤ y → y < b → lt d1[y]! d1[x]! = false := by
    intro x y hx hxm hy hyb
    rw [P1.2.1 y (Or.inr hy)]
    exact permIn_all d d1 a mid (fun z => lt d[y]! z = false) (by omega) P1 (fun i hi him => hc i y hi him hy hyb) x hx hxm
  have c2 : ∀ x y, a ≤ x → x < mid → mid ≤ y → y < b → lt d2[y]! d2[x]! = false := by
    intro x y hx hxm hy hyb
    rw [P2.2.1 x (Or.inl hxm)]
    exact permIn_all d1 d2 mid b (fun z => lt z d1[x]! = false) (by omega) P2 (fun i hi hib => c1 x i hx hxm hi hib) y hy hyb
  refine ⟨P, fun i j hi hij hj => ?_⟩
  rcases Nat.lt_or_ge j mid with hjm | hjm
  · rw [P2.2.1 i (Or.inl (by omega)), P2.2.1 j (Or.inl hjm)]; exact S1 i j hi hij hjm
  · rcases Nat.lt_or_ge i mid with him | him
    · exact c2 i j hi him hjm hj
    · exact S2 i j him hij hj

/-- One row ahead of a sorted run, moved to its place. -/
theorem rot_first {α : Type} [Inhabited α] {lt : α → α → Bool} (hO : SWO lt) {a i b : Nat} {d d' : Array α} (hi : a + 1 ≤ i) (hib : i ≤ b) (S : SortedIn lt (a + 1) b d)
    (h1 : a + 1 < i → lt d[i - 1]! d[a]! = true) (h2 : i < b → lt d[i]! d[a]! = false) (hR : RotOf d d' a (a + 1) i) : SortedIn lt a b d' := by
  intro x y hx hxy hy
  rw [hR.2 x, hR.2 y, if_neg (show ¬ x < a by omega), if_neg (show ¬ y < a by omega)]
  by_cases cx : x < a + (i - (a + 1))
  · rw [if_pos cx]
    by_cases cy : y < a + (i - (a + 1))
    · rw [if_pos cy]; exact S _ _ (by omega) (by omega) (by omega)
    · rw [if_neg cy]
      by_cases cz : y < i
      · rw [if_pos cz, show y - (i - (a + 1)) = a by omega]
        exact hO.ntrans _ _ _ (lt_le hO (h1 (by omega))) (le_of hO S (by omega) (show x - a + (a + 1) ≤ i - 1 by omega) (by omega))
      · rw [if_neg cz]; exact S _ _ (by omega) (by omega) (by omega)
  · rw [if_neg cx, if_neg (show ¬ y < a + (i - (a + 1)) by omega), if_neg (show ¬ y < i by omega)]
    by_cases cz : x < i
    · rw [if_pos cz, show x - (i - (a + 1)) = a by omega]
      exact hO.ntrans _ _ _ (le_of hO S hi (show i ≤ y by omega) hy) (h2 (by omega))
    · rw [if_neg cz]; exact S _ _ (by omega) (by omega) (by omega)

/-- One row behind a sorted run, moved to its place. -/
theorem rot_last {α : Type} [Inhabited α] {lt : α → α → Bool} (hO : SWO lt) {a i m : Nat} {d d' : Array α} (hi : a ≤ i) (him : i ≤ m) (S : SortedIn lt a m d)
    (h1 : a < i → lt d[m]! d[i - 1]! = false) (h2 : i < m → lt d[m]! d[i]! = true) (hR : RotOf d d' i m (m + 1)) : SortedIn lt a (m + 1) d' := by
  intro x y hx hxy hy
  rw [hR.2 x, hR.2 y]
  by_cases cx : x < i
  · rw [if_pos cx]
    by_cases cy : y < i
    · rw [if_pos cy]; exact S _ _ (by omega) (by omega) (by omega)
    · rw [if_neg cy]
      by_cases cz : y < i + (m + 1 - m)
      · rw [if_pos cz, show y - i + m = m by omega]
        exact hO.ntrans _ _ _ (h1 (by omega)) (le_of hO S hx (show x ≤ i - 1 by omega) (by omega))
      · rw [if_neg cz, if_pos (by omega)]; exact S _ _ (by omega) (by omega) (by omega)
  · rw [if_neg cx, if_neg (show ¬ y < i by omega), if_neg (show ¬ y < i + (m + 1 - m) by omega), if_pos (show y < m + 1 by omega)]
    by_cases cz : x < i + (m + 1 - m)
    · rw [if_pos cz, show x - i + m = m by omega]
      exact hO.ntrans _ _ _ (le_of hO S hi (show i ≤ y - (m + 1 - m) by omega) (by omega)) (lt_le hO (h2 (by omega)))
    · rw [if_neg cz, if_pos (by omega)]; exact S _ _ (by omega) (by omega) (by omega)
end Go.Proofs.YtcljffldbnoljaaGreatDoor

namespace Go.Proofs.YtcljffldbnoljaaGreatDoor
open Go.Sort

/-- Every run of B rows, the last one perhaps shorter, is sorted. -/
def Runs {α : Type} [Inhabited α] (lt : α → α → Bool) (B n : Nat) (d : Array α) : Prop := ∀ t : Nat, SortedIn lt (t * B) (min (t * B + B) n) d

/-- s runs of 2 B rows are sorted, behind them runs of B rows. -/
def Half {α : Type} [Inhabited α] (lt : α → α → Bool) (B n s : Nat) (d : Array α) : Prop :=
  (∀ t : Nat, t < s → SortedIn lt (t * (2 * B)) (t * (2 * B) + 2 * B) d) ∧ ∀ t : Nat, 2 * s ≤ t → SortedIn lt (t * B) (min (t * B + B) n) d

theorem two_mul_B (s B : Nat) : 2 * s * B = s * (2 * B) := by rw [Nat.mul_comm 2 s, Nat.mul_assoc]

theorem half_start {α : Type} [Inhabited α] {lt : α → α → Bool} {B n : Nat} {d : Array α} (h : Runs lt B n d) : Half lt B n 0 d := ⟨fun t ht => absurd ht (Nat.not_lt_zero t), fun t _ => h t⟩

theorem half_runs {α : Type} [Inhabited α] {lt : α → α → Bool} {B n s a : Nat} {d : Array α} (ha : a = s * (2 * B)) (h : Half lt B n s d) : SortedIn lt a (min (a + B) n) d ∧ SortedIn lt (a + B) (min (a + B + B) n) d := by
  have h1 := h.2 (2 * s) (Nat.le_refl _)
  have h2 := h.2 (2 * s + 1) (by omega)
  rw [Nat.succ_mul] at h2
  rw [two_mul_B, ← ha] at h1 h2
  exact ⟨h1, h2⟩

theorem half_step {α : Type} [Inhabited α] {lt : α → α → Bool} {B n s a : Nat} {d d' : Array α} (ha : a = s * (2 * B)) (h : Half lt B n s d) (P : PermIn a (a + 2 * B) d d') (S : SortedIn lt a (a + 2 * B) d') : Half lt B n (s + 1) d' := by
  refine ⟨fun t ht => ?_, fun t ht => ?_⟩
  · rcases Nat.lt_or_ge t s with hts | hts
    · have hm : (t + 1) * (2 * B) ≤ s * (2 * B) := Nat.mul_le_mul_right _ hts
      rw [Nat.succ_mul, ← ha] at hm
      exact SortedIn.congr (h.1 t hts) fun i _ hi => P.2.1 i (Or.inl (by omega))
    · rw [show t = s by omega, ← ha]; exact S
  · have hm : (2 * s + 2) * B ≤ t * B := Nat.mul_le_mul_right _ (by omega)
    rw [Nat.succ_mul, Nat.succ_mul, two_mul_B, ← ha] at hm
    exact SortedIn.congr (h.2 t (by omega)) fun i hi _ => P.2.1 i (Or.inr (by omega))

theorem half_end {α : Type} [Inhabited α] {lt : α → α → Bool} {B n s a : Nat} {d : Array α} (ha : a = s * (2 * B)) (hn : n < a + 2 * B) (h : Half lt B n s d) (S : SortedIn lt a n d) : Runs lt (2 * B) n d := by
  intro t
  rcases Nat.lt_trichotomy t s with hts | hts | hts
  · intro i j hi hij hj
    exact h.1 t hts i j hi hij (by omega)
  · subst hts
    rw [← ha]
    intro i j hi hij hj
    exact S i j hi hij (by omega)
  · have hm : (s + 1) * (2 * B) ≤ t * (2 * B) := Nat.mul_le_mul_right _ hts
    rw [Nat.succ_mul, ← ha] at hm
    intro i j hi hij hj
    exfalso; omega

theorem half_end2 {α : Type} [Inhabited α] {lt : α → α → Bool} {B n s a : Nat} {d d' : Array α} (ha : a = s * (2 * B)) (hn : n < a + 2 * B) (h : Half lt B n s d) (P : PermIn a n d d') (S : SortedIn lt a n d') : Runs lt (2 * B) n d' := by
  intro t
  rcases Nat.lt_trichotomy t s with hts | hts | hts
  · have hm : (t + 1) * (2 * B) ≤ s * (2 * B) := Nat.mul_le_mul_right _ hts
    rw [Nat.succ_mul, ← ha] at hm
    refine SortedIn.congr (fun i j hi hij hj => h.1 t hts i j hi hij (by omega)) fun i _ hi => P.2.1 i (Or.inl (by omega))
  · subst hts
    rw [← ha]
    intro i j hi hij hj
    exact S i j hi hij (by omega)
  · have hm : (s + 1) * (2 * B) ≤ t * (2 * B) := Nat.mul_le_mul_right _ hts
    rw [Nat.succ_mul, ← ha] at hm
    intro i j hi hij hj
    exfalso; omega

/-- The first pass: s runs are sorted. -/
theorem runs_step {α : Type} [Inhabited α] {lt : α → α → Bool} {B s a : Nat} {d d' : Array α} (ha : a = s * B) (h : ∀ t : Nat, t < s → SortedIn lt (t * B) (t * B + B) d) (P : PermIn a (a + B) d d') (S : SortedIn lt a (a + B) d') : ∀ t : Nat, t < s + 1 → SortedIn lt (t * B) (t * B + B) d' := by
  intro t ht
  rcases Nat.lt_or_ge t s with hts | hts
  · have hm : (t + 1) * B ≤ s * B := Nat.mul_le_mul_right _ hts
    rw [Nat.succ_mul, ← ha] at hm
    exact SortedIn.congr (h t hts) fun i _ hi => P.2.1 i (Or.inl (by omega))
  · rw [show t = s by omega, ← ha]; exact S

theorem runs_end {α : Type} [Inhabited α] {lt : α → α → Bool} {B n s a : Nat} {d d' : Array α} (ha : a = s * B) (hn : n < a + B) (h : ∀ t : Nat, t < s → SortedIn lt (t * B) (t * B + B) d) (P : PermIn a n d d') (S : SortedIn lt a n d') : Runs lt B n d' := by
  intro t
  rcases Nat.lt_trichotomy t s with hts | hts | hts
  · have hm : (t + 1) * B ≤ s * B := Nat.mul_le_mul_right _ hts
    rw [Nat.succ_mul, ← ha] at hm
    refine SortedIn.congr (fun i j hi hij hj => h t hts i j hi hij (by omega)) fun i _ hi => P.2.1 i (Or.inl (by omega))
  · subst hts
    rw [← ha]
    intro i j hi hij hj
    exact S i j hi hij (by omega)
  · have hm : (s + 1) * B ≤ t * B := Nat.mul_le_mul_right _ hts
    rw [Nat.succ_mul, ← ha] at hm
    intro i j hi hij hj
    exfalso; omega

theorem runs_all {α : Type} [Inhabited α] {lt : α → α → Bool} {B n : Nat} {d : Array α} (h : Runs lt B n d) (hn : n ≤ B) : SortedIn lt 0 n d := by
  have := h 0
  rw [Nat.zero_mul, Nat.zero_add, Nat.min_eq_right hn] at this
  exact this
end Go.Proofs.YtcljffldbnoljaaGreatDoor
