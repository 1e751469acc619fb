/-
  Rows of identifiers in a block. Conditions: as each lemma says.
-/
import Derived.Test.YtdfhfaeeejijcaaDoorCdS
import Derived.Maps.AppendAt
import Derived.Deep.AppendLies
namespace Go.Proofs.YtdfhfaeeejijcaaDoor
open Go.RowKit

/-- The cells of an identifier. -/
def cells4 (x : CidL) : List Value := [.int .u64 x.version, .int .u64 x.codec, .int .u64 x.code, .string ⟨x.digest.toArray⟩]
/-- The cells of identifiers, one behind the other. -/
def rows : List CidL → List Value
  | [] => []
  | x :: T => cells4 x ++ rows T
theorem cells4_len (x : CidL) : (cells4 x).length = 4 := rfl
theorem rows_len : ∀ T : List CidL, (rows T).length = T.length * 4
  | [] => rfl
  | x :: T => by rw [rows, List.length_append, rows_len T, cells4_len, List.length_cons]; omega
theorem rows_app : ∀ A B : List CidL, rows (A ++ B) = rows A ++ rows B
  | [], _ => rfl
  | x :: A, B => by rw [List.cons_append, rows, rows, rows_app A B, List.append_assoc]
theorem drop4 (x : CidL) (R : List Value) (m : Nat) : (cells4 x ++ R).drop (4 + m) = R.drop m := by rw [← List.drop_drop, List.drop_left' (cells4_len x)]
theorem take4 (x : CidL) (R : List Value) (m : Nat) : (cells4 x ++ R).take (4 + m) = cells4 x ++ R.take m := by rw [List.take_add, List.take_left' (cells4_len x), List.drop_left' (cells4_len x)]
theorem rows_drop : ∀ (T : List CidL) (zs : List Value) (k : Nat) (h : k < T.length), (rows T ++ zs).drop (k * 4) = cells4 T[k] ++ ((rows T ++ zs).drop (k * 4 + 4))
  | x :: T, zs, 0, _ => by simp [rows, cells4]
  | x :: T, zs, k + 1, h => by
    have := rows_drop T zs k (by simpa using h)
    rw [rows, List.append_assoc, show (k + 1) * 4 = 4 + k * 4 from by omega, show 4 + k * 4 + 4 = 4 + (k * 4 + 4) from by omega, drop4, drop4, this, List.getElem_cons_succ]
theorem rows_get (T : List CidL) (zs : List Value) (k f : Nat) (h : k < T.length) (hf : f < 4) : (rows T ++ zs)[k * 4 + f]? = (cells4 T[k])[f]? := by
  have := rows_drop T zs k h
  have e : (rows T ++ zs)[k * 4 + f]? = ((rows T ++ zs).drop (k * 4))[f]? := by rw [List.getElem?_drop]
  rw [e, this, List.getElem?_append_left (by rw [cells4_len]; exact hf)]
theorem rows_set : ∀ (T : List CidL) (zs : List Value) (k : Nat) (x : CidL), k < T.length → (rows T ++ zs).take (k * 4) ++ (cells4 x ++ (rows T ++ zs).drop (k * 4 + 4)) = rows (T.set k x) ++ zs
  | y :: T, zs, 0, x, _ => by simp [rows, cells4]
  | y :: T, zs, k + 1, x, h => by
    have := rows_set T zs k x (by simpa using h)
    rw [List.set_cons_succ, rows, rows, List.append_assoc, List.append_assoc, show (k + 1) * 4 = 4 + k * 4 from by omega, show 4 + k * 4 + 4 = 4 + (k * 4 + 4) from by omega, drop4, take4, List.append_assoc, this]

theorem blk_cells {w : World} {g : Nat} {t : TypeId} {T : List CidL} {zs : List Value} (h : Blk w g t (rows T ++ zs).toArray) {k : Nat} (hk : k < T.length) (f : Nat) (hf : f < 4) : w.cell? ⟨g, k * 4 + f, none⟩ = (cells4 T[k])[f]? := by
  rw [h.cell, List.getElem?_toArray, rows_get T zs k f hk hf]
theorem cs_of_blk {w : World} {g : Nat} {t : TypeId} {T : List CidL} {zs : List Value} (h : Blk w g t (rows T ++ zs).toArray) : Cs w g 0 T := by
  intro i hi
  rw [Nat.zero_add]
  exact ⟨blk_cells h hi 0 (by omega), blk_cells h hi 1 (by omega), blk_cells h hi 2 (by omega), blk_cells h hi 3 (by omega)⟩
theorem blk_row_set {w : World} {g : Nat} {t : TypeId} {T : List CidL} {zs : List Value} (h : Blk w g t (rows T ++ zs).toArray) {k : Nat} (hk : k < T.length) (x : CidL) : Blk (w.setCells g (k * 4) (cells4 x)) g t (rows (T.set k x) ++ zs).toArray := by
  have := blk_setCells (cells4 x) (k * 4) (rows T ++ zs) w (by rw [cells4_len, List.length_append, rows_len]; omega) h
  rwa [cells4_len, rows_set T zs k x hk] at this
theorem rows_of_cs {w : World} {b off : Nat} {L : List CidL} (h : Cs w b off L) : ∀ (j : Nat) (u : Value), (rows L)[j]? = some u → w.cell? ((⟨b, off, none⟩ : Addr).add j) = some u := by
  intro j u hu
  have hadd : (⟨b, off, none⟩ : Addr).add j = ⟨b, off + j, none⟩ := by unfold Addr.add; split <;> simp_all
  have hj : j < L.length * 4 := by
    rw [← rows_len]
    exact (List.getElem?_eq_some_iff.1 hu).1
  have hk : j / 4 < L.length := by omega
  have hf : j % 4 < 4 := by omega
  have hr := rows_get L [] (j / 4) (j % 4) hk hf
  rw [List.append_nil, show j / 4 * 4 + j % 4 = j from by omega, hu] at hr
  obtain ⟨h0, h1, h2, h3⟩ := h (j / 4) hk
  rw [hadd, show off + j = off + j / 4 * 4 + j % 4 from by omega]
  obtain ⟨f, hf'⟩ : ∃ f, j % 4 = f := ⟨_, rfl⟩
  rw [hf'] at hr hf ⊢
  match f, hf with
  | 0, _ => exact h0.trans hr.symm
  | 1, _ => exact h1.trans hr.symm
  | 2, _ => exact h2.trans hr.symm
  | 3, _ => exact h3.trans hr.symm
theorem cells4_one (x : CidL) : ∀ u ∈ cells4 x, u.oneCell' = true := by
  intro u hu
  simp [cells4] at hu
  rcases hu with rfl | rfl | rfl | rfl <;> rfl
theorem rows_one : ∀ (T : List CidL), ∀ u ∈ rows T, u.oneCell' = true
  | [], u, h => by simp [rows] at h
  | x :: T, u, h => by
    rw [rows, List.mem_append] at h
    rcases h with h | h
    · exact cells4_one x u h
    · exact rows_one T u h
/-- A row that the call owns, as a block that is known whole. -/
theorem own_blk {w : World} {base : Nat} {e : TypeId} {g n cap : Nat} {T : List CidL} (h : w.ownsRow base e 4 (.slice (some ⟨g, 0, none⟩) n cap) n (rows T)) :
    ∃ zs, Blk w g e (rows T ++ zs).toArray ∧ n ≤ cap ∧ cap ≤ maxLen ∧ (rows T ++ zs).length = cap * 4 ∧ base ≤ g ∧ T.length = n := by
  have hl := h.1
  rw [rows_len] at hl
  rcases h.2 with ⟨h', _⟩ | ⟨g', cap', cur, h', hb, hg, h1, h2, h3, h4⟩
  · simp at h'
  · simp only [Value.slice.injEq, Option.some.injEq, Addr.mk.injEq, and_true, true_and] at h'
    obtain ⟨rfl, rfl⟩ := h'
    refine ⟨cur.toList.drop (n * 4), ?_, h1, h2, ?_, hb, by omega⟩
    · unfold Blk
      rw [hg, ← h4, List.take_append_drop, Array.toArray_toList]
    · rw [← h4, List.take_append_drop, Array.length_toList, h3]
theorem own_of_blk {w : World} {base : Nat} {e : TypeId} {g n cap : Nat} {T : List CidL} {zs : List Value} (h : Blk w g e (rows T ++ zs).toArray) (h1 : n ≤ cap) (h2 : cap ≤ maxLen) (h3 : (rows T ++ zs).length = cap * 4) (hb : base ≤ g) (hT : T.length = n) :
    w.ownsRow base e 4 (.slice (some ⟨g, 0, none⟩) n cap) n (rows T) :=
  ⟨by rw [rows_len, hT], .inr ⟨g, cap, _, rfl, hb, h, h1, h2, by simpa using h3, by
    rw [List.toList_toArray, List.take_append_of_le_length (by rw [rows_len, hT]; exact Nat.le_refl _), List.take_of_length_le (by rw [rows_len, hT]; exact Nat.le_refl _)]⟩⟩
theorem setCells4 (w : World) (g o : Nat) (x : CidL) : w.setCells g o (cells4 x) = (((w.setCell ⟨g, o, none⟩ (.int .u64 x.version)).setCell ⟨g, o + 1, none⟩ (.int .u64 x.codec)).setCell ⟨g, o + 2, none⟩ (.int .u64 x.code)).setCell ⟨g, o + 3, none⟩ (.string ⟨x.digest.toArray⟩) := rfl
theorem blk_setCells_far {g h : Nat} {t : TypeId} {cs : Array Value} (hne : h ≠ g) : ∀ (vs : List Value) (o : Nat) (w : World), Blk w h t cs → Blk (w.setCells g o vs) h t cs
  | [], _, _, hw => hw
  | v :: vs, o, w, hw => blk_setCells_far hne vs (o + 1) _ (hw.far (p := ⟨g, o, none⟩) hne v)
/-- append of identifiers, none too, onto a row that the call owns: its run. -/
theorem append_rows {P : Program} (w : World) (base : Nat) (t e : TypeId) (i : TypeInfo) (z : Value) (bytes : Nat) (ht : P.underlying t = some (.slice e)) (hi : P.info? e = some i) (hz : i.zero = some z) (hsize : i.size = 4) (hby : i.bytes = bytes) (hzs : z.cells.size = 4)
    (g n cap : Nat) (xs : List Value) (hown : w.ownsRow base e 4 (.slice (some ⟨g, 0, none⟩) n cap) n xs) (A : Option Addr) (m c : Nat) (L : List CidL) (hL : L.length = m) (h : m = 0 ∨ ∃ b off, A = some ⟨b, off, none⟩ ∧ Cs w b off L)
    (h63 : n + m ≤ maxLen) (hbytes : (n + m) * bytes ≤ 140737488355328) (hbase : base ≤ w.heap.size) :
    ∃ g' cap' w', (Builtin.append_ #[t, t] t #[.slice (some ⟨g, 0, none⟩) n cap, .slice A m c]).run P w = .ok (.slice (some ⟨g', 0, none⟩) (n + m) cap') w' ∧ w'.ownsRow base e 4 (.slice (some ⟨g', 0, none⟩) (n + m) cap') (n + m) (xs ++ rows L) ∧
      w.grownBy w' (some g) ∧ (g' = g ∨ g' = w.heap.size) := by
  rcases A with _ | ad
  · have hm : m = 0 := by
      rcases h with h | ⟨b, off, h, _⟩
      · exact h
      · cases h
    subst hm
    obtain rfl := List.eq_nil_of_length_eq_zero hL
    have hnc : n ≤ cap := by
      rcases hown.2 with ⟨h, _⟩ | ⟨_, cap', _, h, _, _, h1, _⟩
      · simp at h
      · simp only [Value.slice.injEq] at h
        omega
    refine ⟨g, cap, w, ?_, by simpa [rows] using hown, ⟨rfl, rfl, rfl, Nat.le_refl _, fun _ _ _ => rfl⟩, .inl rfl⟩
    simp [Builtin.append_, run_underlying ht, sizeOf, typeInfo, hi, Builtin.lenOf, Builtin.firstCells, hnc, storeCells]
  · have hcells : ∀ j u, (rows L)[j]? = some u → w.cell? (ad.add j) = some u := by
      intro j u hu
      rcases h with h0 | ⟨b, off, h, hc⟩
      · subst h0
        obtain rfl := List.eq_nil_of_length_eq_zero hL
        simp [rows] at hu
      · injection h with h
        subst h
        exact rows_of_cs hc j u hu
    obtain ⟨v', w', hrun, h2, h3, h4, h5⟩ := run_append_own_at (P := P) w base t t e i z 4 bytes ht hi hz hsize hby hzs (by omega) _ n xs hown ad m c (rows L) (by rw [rows_len, hL]) hcells (rows_one L) h63 hbytes hbase
    have hne : v' ≠ .slice none 0 0 := fun h => by have := (h4.1 h).1; simp at this
    rcases h2.2 with ⟨h, _⟩ | ⟨g', cap', _, rfl, _⟩
    · exact absurd h hne
    · refine ⟨g', cap', w', hrun, h2, h3, ?_⟩
      simpa [Value.ownBlock] using h5
end Go.Proofs.YtdfhfaeeejijcaaDoor
