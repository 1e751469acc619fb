/-
  The walk of impl.bytesOf. Conditions: as the contract says.
-/
import Derived.Test.YtaionnajhgjekaaDoorSj
import Derived.Deep.AppendLies
namespace Go.Proofs.YtaionnajhgjekaaDoor
open Go.RowKit

theorem infoBs : (Tryd.prog.info? 48).map (fun i => (i.zero, i.size, i.bytes)) = some (some (.slice none 0 0), 1, 24) := by kernel_rfl

/-- The value u is a slice of the bytes s, from the head of a block from lo on. -/
def Sv (w : World) (lo : Nat) (u : Value) (s : List UInt8) : Prop := ∃ g c, u = .slice (some ⟨g, 0, none⟩) s.length c ∧ Bs w g 0 s ∧ s.length ≤ c ∧ lo ≤ g ∧ g < w.heap.size
theorem Sv.kp {w w' : World} {L : List Nat} {lo : Nat} {u : Value} {s : List UInt8} (h : Sv w lo u s) (k : Kp L w w') (hl : ∀ i ∈ L, i < lo) : Sv w' lo u s := by
  obtain ⟨g, c, h1, h2, h3, h4, h5⟩ := h
  exact ⟨g, c, h1, h2.kp k (fun hm => by have := hl g hm; omega), h3, h4, Nat.lt_of_lt_of_le h5 k.size⟩
theorem Sv.old {w w' : World} {lo : Nat} {u : Value} {s : List UInt8} (h : Sv w lo u s) (hb : Below w.heap.size w w') : Sv w' lo u s := h.kp (Kp.of_below hb []) (by simp)

theorem Sv.grown {w w' : World} {row : Option Nat} {lo : Nat} {u : Value} {s : List UInt8} (h : Sv w lo u s) (k : w.grownBy w' row) (hne : ∀ g c n, u = .slice (some ⟨g, 0, none⟩) n c → row ≠ some g) : Sv w' lo u s := by
  obtain ⟨g, c, h1, h2, h3, h4, h5⟩ := h
  exact ⟨g, c, h1, fun j hj => (World.cell?_of_block (a := ⟨g, 0 + j, none⟩) (k.block g h5 (fun e => hne g c _ h1 e.symm))).trans (h2 j hj), h3, h4, Nat.lt_of_lt_of_le h5 k.size⟩

theorem own_old {w w' : World} {base : Nat} {e : TypeId} {size n : Nat} {v : Value} {xs : List Value} (h : w.ownsRow base e size v n xs) (hb : Below w.heap.size w w') : w'.ownsRow base e size v n xs :=
  h.kept (row := none) ⟨hb.os, hb.tape, hb.output, hb.size, fun k hk _ => hb.block k hk⟩ (by cases hv : v.ownBlock with | none => exact .inl rfl | some g => exact .inr (by simp))

/-- What bytesOf comes to. -/
def BoPost (n : Nat) (S : List (List UInt8)) (w : World) (e : Ending) (w' : World) : Prop :=
  (∃ (A : Option Addr) (cap : Nat), e = .returned (.slice A n cap) ∧ (n = 0 ∨ ∃ g, A = some ⟨g, 0, none⟩ ∧ w.heap.size ≤ g ∧ ∀ (i : Nat) (h : i < S.length), ∃ u, w'.cell? ⟨g, i, none⟩ = some u ∧ Sv w' w.heap.size u S[i])) ∧ Below w.heap.size w w'

set_option maxRecDepth 100000 in
set_option maxHeartbeats 2000000 in
theorem bytesOf_any (a : Option Addr) (n c : Nat) (S : List (List UInt8)) (w : World) (hL : S.length = n) (hn : n ≤ 1000) (h : n = 0 ∨ ∃ b off, a = some ⟨b, off, none⟩ ∧ So w b off S) (hl : ∀ s ∈ S, s.length ≤ 1000000000) :
    Calls Tryd.prog 21 #[.slice a n c] w (BoPost n S w) := by
  obtain ⟨i0, hi0, hz0, hz1, hz2⟩ := info_parts infoBs
  have HF := Lib.hid (And.intro hL (And.intro h hl))
  clear hL h hl
  go_enter Tryd.func21, Tryd.ntmps21
  go_wp2_with fail
  go_loopw [3, 8] (fun v i wr => ∃ (k : Nat) (xs : List Value), k ≤ n ∧ i = .int .i64 k ∧ Below w.heap.size w wr ∧ wr.ownsRow w.heap.size 48 1 v k xs ∧ ∀ (j : Nat) (hj : j < S.length), j < k → ∃ u, xs[j]? = some u ∧ Sv wr w.heap.size u S[j] ∧ ∀ g c n, u = .slice (some ⟨g, 0, none⟩) n c → v.ownBlock ≠ some g) (fun _ i _ => n - (intOf i).toNat)
  case atStart => exact ⟨0, [], Nat.zero_le _, rfl, Below.refl _ _, World.ownsRow_nil _ _ _ _, fun j _ h => absurd h (Nat.not_lt_zero _)⟩
  case round =>
    obtain ⟨k, xs, hk, rfl, hB, hown, hG⟩ := hrel
    by_cases hkn : k < n
    · obtain h0 | ⟨b, off, rfl, hcs⟩ := HF.out.2.1
      · omega
      have hkL : k < S.length := by rw [HF.out.1]; exact hkn
      have c0 := (hcs.old hB) k hkL
      have hxl := HF.out.2.2 S[k] (List.getElem_mem hkL)
      obtain ⟨x, hx⟩ : ∃ x, S[k] = x := ⟨_, rfl⟩
      rw [hx] at c0 hxl
      have hkI : (k : Int) < (n : Int) := by omega
      have hcv0 := Lib.run_convert_string_bytes (P := Tryd.prog) wr 9 48 5 ⟨x.toArray⟩ Tryd.underlying9 Tryd.underlying48 Tryd.underlying5
      have hb := bw_below wr 5 ⟨x.toArray⟩
      have hbs := bw_bs wr 5 ⟨x.toArray⟩
      have hsz := bw_size wr 5 ⟨x.toArray⟩
      have hgc := grownCap_ge wr (⟨x.toArray⟩ : ByteArray).size 0 5
      obtain ⟨V, hV⟩ : ∃ V, Lib.bytesWorld wr 5 ⟨x.toArray⟩ = V := ⟨_, rfl⟩
      obtain ⟨cx, hcx⟩ : ∃ cx, grownCap wr (⟨x.toArray⟩ : ByteArray).size 0 5 = cx := ⟨_, rfl⟩
      rw [hV] at hcv0 hb hbs hsz
      rw [hcx] at hcv0 hgc
      have hcv : (convert 9 48 (.string ⟨x.toArray⟩)).run Tryd.prog wr = .ok (.slice (some ⟨wr.heap.size, 0, none⟩) x.length cx) V := hcv0
      have hsz2 : wr.heap.size + 1 ≤ V.heap.size := by omega
      have OV := (own_old hown hb).alloc (.cells #[.slice (some ⟨wr.heap.size, 0, none⟩) x.length cx] 48)
      have hBV := Old.alloc (Old.trans hB hb) (.cells #[.slice (some ⟨wr.heap.size, 0, none⟩) x.length cx] 48)
      have SX : Sv V w.heap.size (.slice (some ⟨wr.heap.size, 0, none⟩) x.length cx) x := ⟨wr.heap.size, cx, rfl, hbs, hgc, hB.size, by omega⟩
      have hlt := hown.lt
      have HX := Lib.hid (And.intro hx (And.intro hG (And.intro hb (And.intro SX hlt))))
      clear hcs hx hG hb hbs hgc hcv0 hV hcx hlt SX hsz hown
      go_wp2_with (at_builtin; refine wpList_append_lies _ rfl _ _ 57 rfl w.heap.size 48 i0 _ 1 24 Tryd.underlying57 hi0 hz0 hz1 hz2 rfl (by omega) u3 k xs (by rfl) OV ⟨V.heap.size, 0, none⟩ 1 1 [.slice (some ⟨wr.heap.size, 0, none⟩) x.length cx] (by rfl) (by rfl) (World.news_of_block (cs := #[.slice (some ⟨wr.heap.size, 0, none⟩) x.length cx]) (t := 48) (fr := (0, 0)) (heap_alloc_new V _)) (by simp [Value.oneCell']) (by omega) (by unfold maxLen; omega) (by omega) hBV.size (V.heap.size + 1) (by simp) ?_; intro g cap w1 hown1 hgrow hat hlt1)
      have hB1 := grown_old hBV OV hgrow
      clear OV hBV c0 hcv
      go_wp2_with fail
      all_goals go_roundw
      case rel =>
        refine ⟨k + 1, xs ++ [.slice (some ⟨wr.heap.size, 0, none⟩) x.length cx], hkn, by go_num, hB1, hown1, fun j hj hjk => ?_⟩
        have hxl : xs.length = k := by have := hown1.1; simp at this; omega
        by_cases hjk' : j < k
        · obtain ⟨u, h1, h2, h3⟩ := HX.out.2.1 j hj hjk'
          have h2' := h2
          obtain ⟨gj, cj, hu, _, _, _, hgj⟩ := h2
          refine ⟨u, by rw [List.getElem?_append_left (by omega)]; exact h1, ((h2'.old HX.out.2.2.1).old (Old.alloc (Below.refl _ _) _)).grown hgrow h3, fun g' c' n' hu' => ?_⟩
          subst hu
          simp only [Value.slice.injEq, Option.some.injEq, Addr.mk.injEq, and_true, true_and] at hu'
          obtain ⟨rfl, _, _⟩ := hu'
          rcases hat with hat | hat
          · intro e
            exact h3 gj cj _ rfl (hat.trans e)
          · simp only [Value.ownBlock, ne_eq, Option.some.injEq]; omega
        · obtain rfl : j = k := by omega
          have hob : u3.ownBlock ≠ some wr.heap.size := fun e => by have := (HX.out.2.2.2.2 _ e).2; omega
          refine ⟨.slice (some ⟨wr.heap.size, 0, none⟩) x.length cx, by rw [List.getElem?_append_right (by omega), hxl]; simp, ?_, fun g' c' n' hu' => ?_⟩
          · rw [HX.out.1]
            refine (HX.out.2.2.2.1.old (Old.alloc (Below.refl _ _) _)).grown hgrow (fun g' c' n' hu' => ?_)
            simp only [Value.slice.injEq, Option.some.injEq, Addr.mk.injEq, and_true, true_and] at hu'
            rw [← hu'.1]; exact hob
          · simp only [Value.slice.injEq, Option.some.injEq, Addr.mk.injEq, and_true, true_and] at hu'
            obtain ⟨rfl, _, _⟩ := hu'
            rcases hat with hat | hat
            · intro e; exact hob (hat.trans e)
            · simp only [Value.ownBlock, ne_eq, Option.some.injEq]; omega
      case measure => simp [intOf]; omega
    · have hkn' : k = n := by omega
      subst hkn'
      have hown' := hown
      obtain ⟨hlen, hrow⟩ := hown
      rcases hrow with ⟨rfl, h0⟩ | ⟨g, cap, cur, rfl, hgw, _⟩
      · have H0 := Lib.hid h0
        clear h0
        go_wp2_with fail
        go_ret
        refine ⟨⟨none, 0, ?_, .inl H0.out⟩, hB⟩
        rw [H0.out]; rfl
      · go_wp2_with fail
        go_ret
        refine ⟨⟨some ⟨g, 0, none⟩, cap, rfl, .inr ⟨g, rfl, hgw, fun i hi => ?_⟩⟩, hB⟩
        obtain ⟨u, h1, h2, _⟩ := hG i hi (by rw [← HF.out.1]; exact hi)
        exact ⟨u, by rw [hown'.cellAt i (by have := HF.out.1; omega)]; exact h1, h2⟩
end Go.Proofs.YtaionnajhgjekaaDoor
