/-
  Entries in a row: what their cells hold; spec.ByDigest's order reads them, sorts them. Conditions: as each law says.
  spec.ByDigest: what it leaves. Conditions: as each law says.
  append onto a row of entries; spec.ByDigest: what it leaves. Conditions: as each law says.
  Rows of entries that the code makes; spec.Coded. Conditions: as each law says.
-/
import Derived.Test.YtlafdmmjbkdkaaaGreatDoorPc
import Derived.Test.YtlafdmmjbkdkaaaGreatDoorJUv
import Derived.Shelf.GgSortFunc.SmallK
import Derived.BigRegion
import Derived.Test.YtlafdmmjbkdkaaaGreatDoorJRf
import Derived.Test.YtlafdmmjbkdkaaaGreatDoorShelf
import Derived.Deep.AppendSrc
import Derived.Shelf.GgSortMore.Stable
import Derived.Test.YtlafdmmjbkdkaaaGreatDoorJGa
import Derived.Test.YtlafdmmjbkdkaaaGreatDoorJMa
namespace Go.Proofs.YtlafdmmjbkdkaaaGreatDoor
open Go.RowKit Go.Sort

instance : Inhabited (CidL × Nat) := ⟨(⟨0, 0, 0, []⟩, 0)⟩
/-- An entry's cells. -/
def entC (x : CidL × Nat) : List Value := [.int .u64 (x.1.version : Nat), .int .u64 (x.1.codec : Nat), .int .u64 (x.1.code : Nat), .string ⟨x.1.digest.toArray⟩, .int .u64 (x.2 : Nat)]
theorem entC_len (x : CidL × Nat) : (entC x).length = 5 := rfl
/-- The entries that are spoken of. -/
def EntG (x : CidL × Nat) : Prop := x.1.digest.length ≤ 200 ∧ x.1.code < 9223372036854775808 ∧ x.2 ≤ 10000000
/-- Block g holds n entries. -/
def EntR (w : World) (g n : Nat) : Prop := ∃ d : Array (CidL × Nat), d.size = n ∧ HoldsK entC 5 w g 0 d ∧ ∀ i, i < n → EntG d[i]!

theorem entR_cells {w : World} {g n : Nat} (h : EntR w g n) (i : Nat) (hi : i < n) : ∃ x : CidL × Nat, EntG x ∧ w.cell? ⟨g, i * 5, none⟩ = some (.int .u64 (x.1.version : Nat)) ∧ w.cell? ⟨g, i * 5 + 1, none⟩ = some (.int .u64 (x.1.codec : Nat)) ∧ w.cell? ⟨g, i * 5 + 2, none⟩ = some (.int .u64 (x.1.code : Nat)) ∧
    w.cell? ⟨g, i * 5 + 3, none⟩ = some (.string ⟨x.1.digest.toArray⟩) ∧ w.cell? ⟨g, i * 5 + 4, none⟩ = some (.int .u64 (x.2 : Nat)) := by
  obtain ⟨d, hd, hH, hG⟩ := h
  have hi' : i < d.size := by omega
  have c := fun c hc => (hH.cell hi' (c := c) hc).1
  simp only [Nat.zero_add] at c
  exact ⟨d[i]!, hG i hi, c 0 (by omega), c 1 (by omega), c 2 (by omega), c 3 (by omega), c 4 (by omega)⟩

theorem entR_old {w w' : World} {g n : Nat} (h : EntR w g n) (b : Below w.heap.size w w') : EntR w' g n := by
  obtain ⟨d, hd, hH, hG⟩ := h
  refine ⟨d, hd, fun t ht => ?_, hG⟩
  have h1 := hH t ht
  have hlt := World.block_lt_of_cell? w _ h1.1
  exact ⟨(b.cell (p := ⟨g, 0 + t, none⟩) hlt).trans h1.1, (b.frozen (p := ⟨g, 0 + t, none⟩) hlt).trans h1.2⟩

theorem flatK_push {α : Type} [Inhabited α] (enc : α → List Value) (k : Nat) (hk : ∀ x, (enc x).length = k) (_h0 : 0 < k) (d : Array α) (x : α) : (flatK enc k (d.push x)).toList = (flatK enc k d).toList ++ enc x := by
  have hm : (d.size + 1) * k = d.size * k + k := Nat.succ_mul _ _
  apply List.ext_getElem
  · simp only [Array.length_toList, size_flatK, Array.size_push, List.length_append, hk]; exact hm
  · intro t h1 h2
    have ht : t < d.size * k + k := by simp only [Array.length_toList, size_flatK, Array.size_push] at h1; omega
    simp only [Array.getElem_toList, flatK, Array.getElem_map, Array.getElem_range, List.getElem_append, Array.length_toList, Array.size_map, Array.size_range]
    by_cases hd : t < d.size * k
    · rw [dif_pos hd]
      have hq : t / k < d.size := Nat.div_lt_of_lt_mul (by rw [Nat.mul_comm]; exact hd)
      have e : (d.push x)[t / k]! = d[t / k]! := by rw [getElem!_pos (d.push x) (t / k) (by simp; omega), getElem!_pos d (t / k) hq, Array.getElem_push_lt hq]
      rw [e]
    · rw [dif_neg hd]
      have hq : t / k = d.size := by
        apply Nat.div_eq_of_lt_le <;> omega
      have hr : t % k = t - d.size * k := by
        have := Nat.div_add_mod t k
        rw [hq, Nat.mul_comm] at this
        omega
      have hlt : t - d.size * k < (enc x).length := by rw [hk]; omega
      simp [hq, hr, hlt]

/-- A slice of entries that the code has made. -/
def OwnE (w : World) (base : Nat) (v : Value) (d : Array (CidL × Nat)) : Prop := w.ownsRow base 96 5 v d.size (flatK entC 5 d).toList ∧ ∀ i, i < d.size → EntG d[i]!
/-- A slice of n entries. -/
def EntS (w : World) (v : Value) (n : Nat) : Prop := (v = .slice none 0 0 ∧ n = 0) ∨ ∃ g c, v = .slice (some ⟨g, 0, none⟩) n c ∧ n ≤ c ∧ g < w.heap.size ∧ EntR w g n
theorem EntS.old {w w' : World} {v : Value} {n : Nat} (h : EntS w v n) (b : Below w.heap.size w w') : EntS w' v n := by
  rcases h with h | ⟨g, c, h1, h2, h3, h4⟩
  · exact .inl h
  · exact .inr ⟨g, c, h1, h2, Nat.lt_of_lt_of_le h3 b.size, entR_old h4 b⟩
theorem ownE_ents {w : World} {base : Nat} {v : Value} {d : Array (CidL × Nat)} (h : OwnE w base v d) : EntS w v d.size := by
  obtain ⟨⟨h1, h2 | ⟨g, cap, cur, hv, hg, hc, hle, hmx, hsz, htk⟩⟩, hG⟩ := h
  · exact .inl h2
  · have hB : Blk w g 96 cur := hc
    refine .inr ⟨g, cap, hv, hle, ?_, d, rfl, fun t ht => ⟨?_, hB.frozen _⟩, hG⟩
    · rcases Nat.lt_or_ge g w.heap.size with h | h
      · exact h
      · rw [Array.getElem?_eq_none h] at hc; cases hc
    · have ht' : t < d.size * 5 := by simpa using ht
      have e1 : (cur.toList.take (d.size * 5))[t]? = (flatK entC 5 d).toList[t]? := by rw [htk]
      rw [List.getElem?_take_of_lt ht'] at e1
      rw [Nat.zero_add, hB.cell, ← Array.getElem?_toList, e1]
      have : t < (flatK entC 5 d).size := ht
      rw [Array.getElem?_toList, Array.getElem?_eq_getElem this, getElem!_pos (flatK entC 5 d) t this]
      rfl

set_option maxRecDepth 100000 in
set_option maxHeartbeats 4000000 in
theorem byLess (lb g n c i j : Nat) (w : World) (h : EntR w g n) (hl : w.cell? ⟨lb, 0, none⟩ = some (.slice (some ⟨g, 0, none⟩) n c)) (hi : i < n) (hj : j < n) (_hn : n ≤ 1000) (_hnc : n ≤ c) :
    Calls Tryz.prog 86 #[.int .i64 i, .int .i64 j, .pointer (some ⟨lb, 0, none⟩)] w fun e w' => (∃ b, e = .returned (.bool b)) ∧ Below w.heap.size w w' := by
  obtain ⟨x, hx, x0, x1, x2, x3, x4⟩ := entR_cells h i hi
  obtain ⟨y, hy, y0, y1, y2, y3, y4⟩ := entR_cells h j hj
  have hgl := World.block_lt_of_cell? w _ x0
  have hll := World.block_lt_of_cell? w _ hl
  have hiI : (i : Int) < (n : Int) := by omega
  have hjI : (j : Int) < (n : Int) := by omega
  have hil : i < n := hi
  have hjl : j < n := hj
  clear h hx hy hi hj
  go_enter Tryz.func86, Tryz.ntmps86
  go_wp2_with fail
  go_region
  all_goals
    go_wp2_with fail
  all_goals
    (try simp only [Exit.inBlock, Exit.then])
    refine bodyPost_ret (v := .bool _) (by simp [results, Tryz.results86, go_sem]; rfl) rfl ⟨⟨_, rfl⟩, ?_⟩
    exact (((Below.refl _ _).alloc (Nat.le_refl _) _).alloc (by simp) _).drew
end Go.Proofs.YtlafdmmjbkdkaaaGreatDoor

namespace Go.Proofs.YtlafdmmjbkdkaaaGreatDoor
open Go.RowKit Go.Sort Go.Lib

theorem below_grow (w : World) (os : Array Obj) : RowKit.Below w.heap.size w (Sort.grow w os) :=
  ⟨rfl, rfl, rfl, by simp [Sort.grow], fun k hk => by simp [Sort.grow, Array.getElem?_append_left hk]⟩

noncomputable def entT : TypeInfo := (Tryz.prog.info? 61).get (by kernel_rfl)
noncomputable def entE : TypeInfo := (Tryz.prog.info? 96).get (by kernel_rfl)
theorem ent_sw (n : Nat) (h2 : 2 ≤ n) : Lib.swapperK n entE 25 = 9 := by
  have a : entE.hasPointers = true := by kernel_rfl
  have b : entE.bytes = 48 := by kernel_rfl
  have c : (n == 0) = false := by simp; omega
  have d : (n == 1) = false := by simp; omega
  simp [Lib.swapperK, a, b, c, d]

theorem entC_one (x : CidL × Nat) : ∀ v ∈ entC x, v.oneCell' = true := by
  intro v hv
  simp [entC] at hv
  rcases hv with rfl | rfl | rfl | rfl | rfl <;> rfl

theorem swap_ent (lb g n c : Nat) (hne : lb ≠ g) : SwapOk (.slice (some ⟨g, 0, none⟩) n c) (typeHandle Tryz.prog 96) g n (fun W => W.cell? ⟨lb, 0, none⟩ = some (.slice (some ⟨g, 0, none⟩) n c) ∧ EntR W g n) := by
  rintro W ⟨hc, d, hd, hH, hG⟩ i j hi hj
  have hS := swapSwapsK_of_literal (P := Tryz.prog) false 113 (fun args W => run_callFunc_extern Tryz.func113 (by kernel_rfl) (by kernel_rfl) (by kernel_rfl) (e := Extern.ReflectliteSwapper.swap false) (by kernel_rfl) args W)
    96 entE (by kernel_rfl) entC 5 entC_len (by kernel_rfl) (fun _ => by kernel_rfl) entC_one g 0 n c W d hH hd i j hi hj
  have hw := swap_worldK entC 5 entC_len W 0 0 g 0 d i j (by omega) (by omega)
  have hself : putRowK entC 5 (Sort.ahead W 0) g 0 d = W := putRowK_self entC 5 W g 0 d hH
  rw [hself] at hw
  change _ = putRowK entC 5 W g 0 (swp d i j) at hw
  have hkp : Kp [g] W ((W.setCells g (0 + i * 5) (entC d[j]!)).setCells g (0 + j * 5) (entC d[i]!)) := Kp.of_setCells (.inl (by simp)) _ _ _ (Kp.of_setCells (.inl (by simp)) _ _ _ (Kp.refl _ _))
  refine ⟨_, hS, ⟨?_, swp d i j, by rw [size_swp]; exact hd, ?_, fun t ht => ?_⟩, hkp⟩
  · rw [show (W.setCells g (0 + i * 5) (entC d[j]!)).setCells g (0 + j * 5) (entC d[i]!) = putRowK entC 5 W g 0 (swp d i j) from hw, cell?_putRowK_other entC 5 W g 0 _ _ hne]
    exact hc
  · rw [show (W.setCells g (0 + i * 5) (entC d[j]!)).setCells g (0 + j * 5) (entC d[i]!) = putRowK entC 5 W g 0 (swp d i j) from hw]
    exact holdsK_putRowK entC 5 W g 0 d (swp d i j) hH (size_swp d i j)
  · rw [swp_get d (by omega) (by omega) t]
    split
    · exact hG _ (by omega)
    · split
      · exact hG _ (by omega)
      · exact hG _ ht

/-- sort.SliceStable of the entries in block g, which cell lb holds. -/
theorem stable_ents (lb g n c : Nat) (hne : lb ≠ g) (hn : n ≤ 1000) (hnc : n ≤ c) (w : World) (hc : w.cell? ⟨lb, 0, none⟩ = some (.slice (some ⟨g, 0, none⟩) n c)) (hE : EntR w g n) (hg : g < w.heap.size) :
    Calls Tryz.prog 85 #[.iface 61 (.slice (some ⟨g, 0, none⟩) n c), .func (.func 86) #[] #[.pointer (some ⟨lb, 0, none⟩)]] w fun e w' => e = .returned (.tuple #[]) ∧ w'.cell? ⟨lb, 0, none⟩ = some (.slice (some ⟨g, 0, none⟩) n c) ∧ EntR w' g n ∧ Kp [g] w w' := by
  have hlb := World.block_lt_of_cell? w _ hc
  by_cases h2 : 2 ≤ n
  · have hB : sliceBound Tryz.prog 96 entE 25 (some ⟨g, 0, none⟩) n c = #[.slice (some ⟨g, 0, none⟩) n c, typeHandle Tryz.prog 96] := by
      unfold sliceBound; rw [ent_sw n h2]; rfl
    have hI : InvOk (fun W => W.cell? ⟨lb, 0, none⟩ = some (.slice (some ⟨g, 0, none⟩) n c) ∧ EntR W g n) := fun W W' h b => ⟨(b.cell (World.block_lt_of_cell? W _ h.1)).trans h.1, entR_old h.2 b⟩
    have hL : LessOk (.pointer (some ⟨lb, 0, none⟩)) n (fun W => W.cell? ⟨lb, 0, none⟩ = some (.slice (some ⟨g, 0, none⟩) n c) ∧ EntR W g n) := fun W h i j hi hj =>
      (byLess lb g n c i j W h.2 h.1 hi hj hn hnc).mono fun e w' h' => ⟨h'.1, hI W w' h h'.2, h'.2⟩
    have b0 : RowKit.Below w.heap.size w (stableWorld Tryz.prog Tryz.laysGt8_ren 61 (some ⟨g, 0, none⟩) n c w) := by
      unfold stableWorld
      exact Old.alloc (Old.alloc (Below.refl _ _) _) _
    refine Any.sort_SliceStable_of_stable Tryz.laysGt8 61 96 entT entE (by kernel_rfl) (by kernel_rfl) (by kernel_rfl) (by kernel_rfl) 25 (fun _ => by kernel_rfl) _ n c (by omega) 113 (by rw [ent_sw n h2]; kernel_rfl) _ #[] _ w _ ?_
    rw [hB]
    refine (stable_loose (.pointer (some ⟨lb, 0, none⟩)) _ _ g n _ hI (swap_ent lb g n c hne) hL hn _ (hI w _ ⟨hc, hE⟩ b0) (Nat.lt_of_lt_of_le hg b0.size)).mono ?_
    rintro e w' ⟨rfl, ⟨h1, h2⟩, h3⟩
    exact ⟨rfl, h1, h2, (Kp.of_below b0 [g]).trans h3⟩
  · have hk : ∃ k f, Lib.swapperK n entE 25 = k ∧ Tryz.prog.funcs.findIdx? (·.name == "internal/reflectlite" ++ ".Swapper$" ++ toString k) = some f := by
      have : n = 0 ∨ n = 1 := by omega
      rcases this with rfl | rfl
      · exact ⟨1, 105, by simp [Lib.swapperK], by kernel_rfl⟩
      · exact ⟨2, 106, by simp [Lib.swapperK], by kernel_rfl⟩
    obtain ⟨k, f, hk1, hk2⟩ := hk
    refine (Any.sort_SliceStable_tiny Tryz.laysGt8 61 96 entT entE (by kernel_rfl) (by kernel_rfl) (by kernel_rfl) (by kernel_rfl) 25 (fun _ => by kernel_rfl) (some ⟨g, 0, none⟩) n c (by omega) f (by rw [hk1]; exact hk2) (.func 86) #[] #[.pointer (some ⟨lb, 0, none⟩)] w).mono ?_
    rintro e w' ⟨rfl, os, rfl⟩
    have b0 : RowKit.Below w.heap.size w (Sort.grow w os) := below_grow w os
    exact ⟨rfl, (b0.cell hlb).trans hc, entR_old hE b0, Kp.of_below b0 [g]⟩
end Go.Proofs.YtlafdmmjbkdkaaaGreatDoor

namespace Go.Proofs.YtlafdmmjbkdkaaaGreatDoor
open Go.RowKit Go.Sort Go.Lib

theorem entI : Tryz.prog.info? 96 = some entE := by kernel_rfl
theorem entZ : entE.zero = some (.agg #[.int .u64 0, .int .u64 0, .int .u64 0, .string ⟨#[]⟩, .int .u64 0]) := by kernel_rfl

theorem mem_flatK {α : Type} [Inhabited α] (enc : α → List Value) (k : Nat) (hk : ∀ x, (enc x).length = k) (h1 : ∀ x, ∀ v ∈ enc x, v.oneCell' = true) (d : Array α) : ∀ u ∈ (flatK enc k d).toList, u.oneCell' = true := by
  intro u hu
  simp only [flatK, Array.toList_map, List.mem_map, Array.toList_range, List.mem_range] at hu
  obtain ⟨t, ht, rfl⟩ := hu
  rcases Nat.eq_zero_or_pos k with rfl | hp
  · simp at ht
  · refine h1 d[t / k]! _ ?_
    have : t % k < (enc d[t / k]!).length := by rw [hk]; exact Nat.mod_lt _ hp
    rw [getElem!_pos (enc d[t / k]!) (t % k) this]
    exact List.getElem_mem _

/-- append(out, l...) where out is an empty row that has just been made. -/
theorem app_ents (w : World) (v : Value) (n : Nat) (h : EntS w v n) (hn : n ≤ 1000) :
    ∃ g c w1, (Builtin.append_ #[61, 61] 61 #[.slice (some ⟨w.heap.size, 0, none⟩) 0 0, v]).run Tryz.prog (w.alloc (.cells #[] 96)) = .ok (.slice (some ⟨g, 0, none⟩) n c) w1 ∧ n ≤ c ∧ g < w1.heap.size ∧ EntR w1 g n ∧ Below w.heap.size w w1 ∧ w.heap.size ≤ g := by
  have hb := Old.alloc (Below.refl w.heap.size w) (.cells #[] 96)
  have ho := World.ownsRow_lit (base := w.heap.size) (e := 96) (size := 5) w #[] 0 (Nat.le_refl _) (by decide) rfl
  rcases h with ⟨rfl, rfl⟩ | ⟨g, c, rfl, hnc, hg, d, rfl, hH, hG⟩
  · have hrun := run_append_owned_none (P := Tryz.prog) _ w.heap.size 61 61 96 entE 5 Tryz.underlying61 entI _ 0 _ ho
    exact ⟨_, _, _, hrun, Nat.le_refl _, by simp, ⟨#[], rfl, fun t ht => by simp at ht, fun i hi => by omega⟩, hb, Nat.le_refl _⟩
  · obtain ⟨v', w', hrun, hown, hgr, hnil⟩ := run_append_own (P := Tryz.prog) (w := w.alloc (.cells #[] 96)) w.heap.size 61 61 96 entE _ 5 48 Tryz.underlying61 entI entZ (by kernel_rfl) (by kernel_rfl) (by kernel_rfl) (by decide) _ 0 _ ho
      ⟨g, 0, none⟩ d.size c (flatK entC 5 d).toList (by simp) (fun j u hj => by
        rw [add_at, Nat.zero_add]
        have hj' : j < (flatK entC 5 d).size := by
          rcases Nat.lt_or_ge j (flatK entC 5 d).size with h | h
          · exact h
          · rw [Array.getElem?_toList, Array.getElem?_eq_none h] at hj; cases hj
        have := (hH j hj').1
        rw [Nat.zero_add] at this
        rw [hb.cell (p := ⟨g, j, none⟩) hg, this]
        rw [Array.getElem?_toList, Array.getElem?_eq_getElem hj'] at hj
        rw [getElem!_pos (flatK entC 5 d) j hj']
        simpa using hj) (mem_flatK entC 5 entC_len entC_one d) (by unfold maxLen; omega) (by omega) (by simp)
    rw [Nat.zero_add] at hown
    have hE : OwnE w' w.heap.size v' d := ⟨by simpa using hown, hG⟩
    have hb' := grown_old hb ho hgr
    rcases ownE_ents hE with ⟨rfl, h0⟩ | ⟨g', c', rfl, h1, h2, h3⟩
    · have := hnil.1 rfl
      cases this.1
    · exact ⟨g', c', w', hrun, h1, h2, h3, hb', (hE.1.lt g' rfl).1⟩

/-- What it answers: n entries. -/
def EPost (w : World) (n : Nat) (e : Ending) (w' : World) : Prop := (∃ v', e = .returned v' ∧ EntS w' v' n ∧ ∀ i ∈ v'.ownBlock.toList, w.heap.size ≤ i) ∧ Below w.heap.size w w'

set_option maxRecDepth 100000 in
set_option maxHeartbeats 2000000 in
theorem byDigest (v : Value) (n : Nat) (w : World) (h : EntS w v n) (hn : n ≤ 1000) : Calls Tryz.prog 77 #[v] w (EPost w n) := by
  obtain ⟨g, c, w1, hap, hnc, hg, hE, hb, hge⟩ := app_ents w v n h hn
  have HA := Lib.hid (And.intro hnc (And.intro hg (And.intro hE (And.intro hb hge))))
  have HAP := Lib.hid hap
  clear h hnc hg hE hb hap hge
  obtain ⟨V, hV⟩ : ∃ V, w1.alloc (.cells #[.slice (some ⟨g, 0, none⟩) n c] 61) = V := ⟨_, rfl⟩
  obtain ⟨d, hd⟩ : ∃ d, w1.heap.size = d := ⟨_, rfl⟩
  have B0 : Blk V d 61 #[.slice (some ⟨g, 0, none⟩) n c] := by rw [← hV, ← hd]; exact Blk.new _ _ _
  have b1 : Below w1.heap.size w1 V := by rw [← hV]; exact Old.alloc (Below.refl _ _) _
  have c0 : V.cell? ⟨d, 0, none⟩ = some (.slice (some ⟨g, 0, none⟩) n c) := B0.cell 0
  have hgd : d ≠ g := by have := HA.out.2.1; omega
  have hS := stable_ents d g n c hgd hn HA.out.1 V c0 (entR_old HA.out.2.2.1 b1) (Nat.lt_of_lt_of_le HA.out.2.1 b1.size)
  have HX := Lib.hid (And.intro hS (And.intro b1 hd))
  clear hS b1 B0
  go_enter Tryz.func77, Tryz.ntmps77
  go_wp2_with (first | (at_builtin; go_must (refine wpList_append_run rfl _ _ 61 61 rfl _ _ rfl rfl _ _ HAP.out ?_)) | (go_at_call 85; refine (HX.out.1).mono ?_; rintro _ w2 ⟨rfl, h1, h2, h3⟩))
  all_goals
    replace h2 := Lib.hid (And.intro h2 h3)
    clear h3
    go_wp2_with fail
    refine bodyPost_ret (v := .slice (some ⟨g, 0, none⟩) n c) (by simp [results, Tryz.results77, go_sem]) rfl ⟨⟨_, rfl, .inr ⟨g, c, rfl, HA.out.1, ?_, h2.out.1⟩, fun i hi => by simp [Value.ownBlock] at hi; subst hi; exact HA.out.2.2.2.2⟩, ?_⟩
    · have := h2.out.2.size; have := HX.out.2.1.size; have := HA.out.2.1; omega
    · have hk := ((Kp.of_below HA.out.2.2.2.1 [g]).step (l' := []) (Kp.of_below HX.out.2.1 []) (by simp)).step (l' := [g]) h2.out.2 (by simp)
      exact (hk.weaken (l' := []) (by intro i hi; simp at hi; subst hi; exact .inr HA.out.2.2.2.2)).below
end Go.Proofs.YtlafdmmjbkdkaaaGreatDoor

namespace Go.Proofs.YtlafdmmjbkdkaaaGreatDoor
open Go.RowKit Go.Sort

/-- A slice of entries that the code has made. -/
def OwnV (w : World) (v : Value) (d : Array (CidL × Nat)) : Prop := RowV w 5 v d.size (flatK entC 5 d).toList ∧ ∀ i, i < d.size → EntG d[i]!
theorem OwnV.old {w w' : World} {v : Value} {d : Array (CidL × Nat)} (h : OwnV w v d) (b : Below w.heap.size w w') : OwnV w' v d := ⟨h.1.old b, h.2⟩
theorem ownV_ents {w : World} {v : Value} {d : Array (CidL × Nat)} (h : OwnV w v d) : EntS w v d.size := by
  obtain ⟨⟨h1, h2 | ⟨g, cap, hv, hg, hle, hmx, hc, hok⟩⟩, hG⟩ := h
  · exact .inl h2
  · refine .inr ⟨g, cap, hv, hle, hg, d, rfl, fun t ht => ⟨?_, ?_⟩, hG⟩
    · have : t < (flatK entC 5 d).size := ht
      rw [Nat.zero_add]
      refine hc t _ ?_
      rw [Array.getElem?_toList, Array.getElem?_eq_getElem this, getElem!_pos (flatK entC 5 d) t this]
      rfl
    · have : t < d.size * 5 := by simpa using ht
      rw [Nat.zero_add]
      exact (hok t (by omega)).2
theorem AppT.old {w w1 w2 : World} {u v : Value} (h : AppT w w1 u v) (b : Below w1.heap.size w1 w2) : AppT w w2 u v := ⟨h.1.old b, h.2⟩
theorem AppT.below {w w1 : World} {v : Value} (h : AppT w w1 (.slice none 0 0) v) : Below w.heap.size w w1 := Kp.below h.1

theorem entR_kp {w w' : World} {g n : Nat} {L : List Nat} (h : EntR w g n) (b : Kp L w w') (hg : g ∉ L) : EntR w' g n := by
  obtain ⟨d, hd, hH, hG⟩ := h
  refine ⟨d, hd, fun t ht => ?_, hG⟩
  have h1 := hH t ht
  have hlt := World.block_lt_of_cell? w _ h1.1
  exact ⟨(b.cell (p := ⟨g, 0 + t, none⟩) hlt hg).trans h1.1, (b.frozen (p := ⟨g, 0 + t, none⟩) hlt hg).trans h1.2⟩
theorem EntS.kp {w w' : World} {v : Value} {n : Nat} {L : List Nat} (h : EntS w v n) (b : Kp L w w') (hL : ∀ i ∈ v.ownBlock.toList, i ∉ L) : EntS w' v n := by
  rcases h with h | ⟨g, c, rfl, h2, h3, h4⟩
  · exact .inl h
  · exact .inr ⟨g, c, rfl, h2, Nat.lt_of_lt_of_le h3 b.size, entR_kp h4 b (hL g (by simp [Value.ownBlock]))⟩
theorem EntS.lt {w : World} {v : Value} {n : Nat} (h : EntS w v n) : ∀ i ∈ v.ownBlock.toList, i < w.heap.size := by
  rcases h with ⟨rfl, _⟩ | ⟨g, c, rfl, h2, h3, h4⟩
  · intro i hi; simp [Value.ownBlock] at hi
  · intro i hi; simp [Value.ownBlock] at hi; omega

/-- A slice of n entries, its address set apart. -/
theorem entS_form {w : World} {v : Value} {n : Nat} (h : EntS w v n) : ∃ b c, v = .slice b n c ∧ ∀ i, i < n → ∃ g, b = some ⟨g, 0, none⟩ ∧ n ≤ c ∧ EntR w g n := by
  rcases h with ⟨rfl, rfl⟩ | ⟨g, c, rfl, h2, _, h4⟩
  · exact ⟨none, 0, rfl, fun i hi => by omega⟩
  · exact ⟨_, c, rfl, fun i hi => ⟨g, rfl, h2, h4⟩⟩

theorem wpList_ent1 {ops : Array Oper} {rest : List Oper} {o : Oper} {a : Act} {Q : Exit → Act → World → Prop} (w : World) (hgd : o.guard = none) (s x : Operand)
    (ho : o.op = .call { callee := .builtin .append, args := #[s, x], argTypes := #[61, 61] }) (hot : o.type = 61)
    (v : Value) (d : Array (CidL × Nat)) (hs : a.eval s = v) (y : CidL × Nat) (hy : EntG y) (k : Nat) (hx : a.eval x = .slice (some ⟨k, 0, none⟩) 1 1) (hk : k = w.heap.size) (h : OwnV w v d) (hn : d.size + 1 ≤ 1000000000)
    (K : ∀ v' w', OwnV w' v' (d.push y) → AppT w w' v v' → wpList Tryz.prog ops Q rest (a.put o.dst v') w') : wpList Tryz.prog ops Q (o :: rest) a (w.alloc (.cells (entC y).toArray 96)) := by
  subst hk
  refine wpList_lit w hgd s x 61 96 (flatK entC 5 d).toList (entC y) ho hot entE _ 5 48 Tryz.underlying61 entI entZ (by kernel_rfl) (by kernel_rfl) (by kernel_rfl) (by decide) v d.size hs h.1 hx rfl (entC_one y) hn (by decide)
    (fun v' w' hR' hT => K v' w' ⟨?_, fun i hi => ?_⟩ hT)
  · rw [flatK_push entC 5 entC_len (by decide) d y, Array.size_push]
    exact hR'
  · rw [getElem!_pos (d.push y) i hi]
    rw [Array.size_push] at hi
    by_cases h1 : i < d.size
    · rw [Array.getElem_push_lt h1]
      have := h.2 i h1
      rwa [getElem!_pos d i h1] at this
    · have : i = d.size := by omega
      subst this
      simpa using hy

/-- What it answers: n entries at most. -/
def ELPost (w : World) (n : Nat) (e : Ending) (w' : World) : Prop := (∃ v' m, e = .returned v' ∧ EntS w' v' m ∧ m ≤ n ∧ ∀ i ∈ v'.ownBlock.toList, w.heap.size ≤ i) ∧ Below w.heap.size w w'

set_option maxRecDepth 100000 in
set_option maxHeartbeats 4000000 in
theorem coded_any (v : Value) (n : Nat) (code : Int) (w : World) (h : EntS w v n) (hn : n ≤ 1000) : Calls Tryz.prog 71 #[v, .int .u64 code] w (ELPost w n) := by
  obtain ⟨b, c, rfl, hF⟩ := entS_form h
  replace hF := Lib.hid hF
  clear h
  go_enter Tryz.func71, Tryz.ntmps71
  go_wp2_with fail
  go_loopw [5, 10] (fun v5 v10 wr => ∃ (i : Nat) (d : Array (CidL × Nat)), i ≤ n ∧ v10 = .int .i64 i ∧ d.size ≤ i ∧ OwnV wr v5 d ∧ AppT w wr (.slice none 0 0) v5) (fun v5 v10 _ => n - (intOf v10).toNat)
  case atStart => exact ⟨0, #[], Nat.zero_le _, rfl, Nat.le_refl _, ⟨by simpa [flatK] using rowV_nil w 5, fun i hi => by simp at hi⟩, AppT.refl _ _⟩
  case round =>
    obtain ⟨i, d, hi, rfl, hd, hO, hT⟩ := hrel
    by_cases hik : i < n
    · have hdd : decide ((i : Int) < (n : Int)) = true := by rw [decide_eq_true_eq]; omega
      obtain ⟨g, rfl, hnc, hE⟩ := hF.out i hik
      have hEr := entR_old hE hT.below
      obtain ⟨x, hx, x0, x1, x2, x3, x4⟩ := entR_cells hEr i hik
      have hgl := World.block_lt_of_cell? wr _ x0
      have b1 := Old.alloc (Below.refl wr.heap.size wr) (.cells (entC x).toArray 96)
      have HX := Lib.hid (And.intro (hO.old b1) (And.intro (hT.old b1) (And.intro hx (And.intro hO hT))))
      have hiI : (i : Int) < (n : Int) := by omega
      clear hE hEr hO hT hx b1 hF
      go_wp2_with (at_builtin; go_must (refine wpList_ent1 _ rfl _ _ rfl rfl u5 d rfl x HX.out.2.2.1 _ rfl (by simp) HX.out.1 (by omega) ?_); intro v' w' hB' hT'; replace hB' := Lib.hid (And.intro hB' (AppT.trans HX.out.2.1 hT')); clear hT')
      all_goals go_roundw
      case rel => exact ⟨i + 1, d.push x, by omega, rfl, by simp; omega, hB'.out.1, hB'.out.2⟩
      case measure => simp [intOf]; omega
      case rel => exact ⟨i + 1, d, by omega, rfl, by omega, HX.out.1, HX.out.2.1⟩
      case measure => simp [intOf]; omega
    · have hdd : decide ((i : Int) < (n : Int)) = false := by rw [decide_eq_false_iff_not]; omega
      have hik' : i = n := by omega
      subst hik'
      replace hO := Lib.hid (And.intro hO hT)
      clear hT hF
      go_wp2_with fail
      refine bodyPost_ret (v := u5) (by simp [results, Tryz.results71, go_sem]) rfl ⟨⟨u5, d.size, rfl, ownV_ents hO.out.1, hd, fun j hj => (hO.out.2.2 j hj).resolve_left (by simp [Value.ownBlock])⟩, hO.out.2.below⟩
end Go.Proofs.YtlafdmmjbkdkaaaGreatDoor
