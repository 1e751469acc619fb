/-
  spec.Codes: the codes of the hash functions, each once, in order. Conditions: as each law says.
  spec.Coded: the entries of one hash function. Conditions: as each law says.
  The walk of spec.little: a number in 8 bytes, the lowest first. Conditions: the number is one of uint64.
  spec.low: so many bytes of a number behind a row of bytes, the lowest first. Conditions: as each law says.
-/
import Derived.Test.YtcljffldbnoljaaGreatDoorJBv
import Derived.Test.YtcljffldbnoljaaGreatDoorJBase
import Derived.Test.YtcljffldbnoljaaGreatDoorProg
import Derived.LoopTactic
import Derived.Deep.RegionHeld3
import Derived.Deep.QuietTactic
import Derived.BigQuiet
import Derived.Deep.RegionWith
import Derived.Lib.Endian
import Derived.Test.YtcljffldbnoljaaGreatDoorJQs
namespace Go.Proofs.YtcljffldbnoljaaGreatDoor
open Go.RowKit Go.Sort

set_option maxRecDepth 100000 in
set_option maxHeartbeats 4000000 in
theorem codes_eq (v : Value) (L : List EntL) (w : World) (h : EnS w v L) (hG : ∀ x ∈ L, EnG x) (hn : L.length ≤ 1000) : Calls Tryz.prog 31 #[v] w (NsPost .u64 w (fun x => (x.c.code : Int)) L) := by
  obtain ⟨_, b, off, c, rfl, hF⟩ := h
  obtain ⟨n, hnl⟩ : ∃ n, L.length = n := ⟨_, rfl⟩
  rw [hnl] at hn ⊢
  have HG := Lib.hid (And.intro hG hnl)
  clear hG hnl
  have hmm := @run_makeMap Tryz.prog
  obtain ⟨w1, hw1⟩ : ∃ w1, (w.alloc (.cells #[.slice none 0 0] 82)).alloc (.map #[] 0) = w1 := ⟨_, rfl⟩
  obtain ⟨q, hq⟩ : ∃ q, w.heap.size = q := ⟨_, rfl⟩
  have b1 : Below w.heap.size w w1 := by rw [← hw1]; exact Old.alloc (Old.alloc (Below.refl _ _) _) _
  have hS : MapV 25 .u64 w1 (q + 1) 0 (fun _ => none) := by
    rw [← hw1, ← hq]
    have := mapV_made 25 .u64 (w.alloc (.cells #[.slice none 0 0] 82))
    rw [show (w.alloc (.cells #[.slice none 0 0] 82)).heap.size = w.heap.size + 1 by simp] at this
    exact this
  have B0 : Blk w1 q 82 #[.slice none 0 0] := by rw [← hw1, ← hq]; exact (Blk.new _ _ _).alloc _
  have hs1 : w1.heap.size = q + 1 + 1 := by rw [← hw1, ← hq]; simp
  have c0 : w1.cell? ⟨q, 0, none⟩ = some (.slice none 0 0) := B0.cell 0
  have f0 : w1.frozen? ⟨q, 0, none⟩ = false := B0.frozen 0
  replace hF := Lib.hid (And.intro hF (And.intro b1 (And.intro hS (And.intro hs1 (And.intro hq (And.intro c0 f0))))))
  clear b1 hS hs1 B0
  go_enter Tryz.func31, Tryz.ntmps31
  go_wp2_with fail
  clear hw1 hq c0 f0
  go_loopw [10] (fun v11 wr => ∃ (i : Nat) (l : List Int) (v3 : Value), i ≤ n ∧ v11 = .int .i64 i ∧ l.length ≤ i ∧ OwnN .u64 wr v3 l ∧ (MapV 25 .u64 wr (q + 1) i (setF l) ∧ Hid (KeysOf (fun x => (x.c.code : Int)) L i l)) ∧ Kp [q, q + 1] w1 wr ∧ (∀ j ∈ v3.ownBlock.toList, q + 1 < j) ∧ wr.cell? ⟨q, 0, none⟩ = some v3 ∧ wr.frozen? ⟨q, 0, none⟩ = false) (fun v11 _ => n - (intOf v11).toNat)
  case atStart => exact ⟨0, [], _, Nat.zero_le _, rfl, Nat.le_refl _, ownN_nil _ _, ⟨by rw [setF_nil]; exact hF.out.2.2.1, Lib.hid (keysOf_nil _ _)⟩, Kp.refl _ _, by simp [Value.ownBlock], hF.out.2.2.2.2.2.1, hF.out.2.2.2.2.2.2⟩
  case round =>
    obtain ⟨i, l, v3, hi, rfl, hl, hO, ⟨hS, hQ⟩, hK, hj, hc, hf⟩ := hrel
    have hbw : Below w.heap.size w wr := ((Kp.of_below hF.out.2.1 []).step hK (by intro j hj; have := hF.out.2.2.2.2.1; simp at hj; exact .inr (by omega))).below
    have hqr : q < wr.heap.size := World.block_lt_of_cell? wr _ hc
    have hqj : ∀ j ∈ v3.ownBlock.toList, q ≠ j := fun j h => by have := hj j h; omega
    by_cases hik : i < n
    · have hdd : decide ((i : Int) < (n : Int)) = true := by rw [decide_eq_true_eq]; omega
      have hiL : i < L.length := by rw [HG.out.2]; exact hik
      obtain ⟨x, hxL⟩ : ∃ x, L[i] = x := ⟨_, rfl⟩
      have hEr := (Ens.old hF.out.1 hbw) i hiL
      rw [hxL] at hEr
      obtain ⟨x0, x1, x2, x3, x4⟩ := hEr
      have hx : EnG x := HG.out.1 x (by rw [← hxL]; exact List.getElem_mem hiL)
      have hgl := World.block_lt_of_cell? wr _ x0
      obtain ⟨W1, hW1⟩ : ∃ W1, wr.alloc (.cells (enC x).toArray 33) = W1 := ⟨_, rfl⟩
      obtain ⟨dd, hdd'⟩ : ∃ dd, wr.heap.size = dd := ⟨_, rfl⟩
      have N1 : Blk W1 dd 33 (enC x).toArray := by rw [← hW1, ← hdd']; exact Blk.new _ _ _
      have b1 : Below wr.heap.size wr W1 := by rw [← hW1]; exact Old.alloc (Below.refl _ _) _
      have e2 : W1.cell? ⟨dd, 2, none⟩ = some (.int .u64 (x.c.code : Nat)) := N1.cell 2
      have hwf : (Lit.int .u64 (x.c.code : Int)).wf = true := by have := hx.2.1; exact wf_u64 (by omega)
      have S1 := hS.old b1
      obtain ⟨bq, hbq⟩ : ∃ bq, decide ((x.c.code : Int) ∈ l) = bq := ⟨_, rfl⟩
      have hlk := mapV_look S1 Tryz.underlying25 Tryz.underlying111 (boolZ _) hwf
      obtain ⟨W2, hup, S2, K2⟩ := mapV_put S1 Tryz.underlying25 Tryz.underlying111 (by omega) hwf (.bool true)
      rw [setF_look, hbq] at hlk
      have HY := Lib.hid (And.intro hbq (And.intro (show (x.c.code : Int) = (x.c.code : Int) from rfl) (And.intro hxL hQ)))
      have hiI : (i : Int) < (n : Int) := by omega
      have hcW : W1.cell? ⟨q, 0, none⟩ = some v3 := (b1.cell (p := ⟨q, 0, none⟩) hqr).trans hc
      have hfW : W1.frozen? ⟨q, 0, none⟩ = false := (b1.frozen (p := ⟨q, 0, none⟩) hqr).trans hf
      have hW1' : wr.alloc (.cells #[.int .u64 (x.c.version : Nat), .int .u64 (x.c.codec : Nat), .int .u64 (x.c.code : Nat), .string ⟨x.c.digest.toArray⟩, .int .u64 (x.off : Nat)] 33) = W1 := hW1
      have hq1 : q < W1.heap.size := Nat.lt_of_lt_of_le hqr b1.size
      have hc2 : W2.cell? ⟨q, 0, none⟩ = some v3 := (K2.cell (p := ⟨q, 0, none⟩) hq1 (by simp)).trans hcW
      have hf2 : W2.frozen? ⟨q, 0, none⟩ = false := (K2.frozen (p := ⟨q, 0, none⟩) hq1 (by simp)).trans hfW
      have e22 : W2.cell? ⟨dd, 2, none⟩ = some (.int .u64 (x.c.code : Nat)) := (K2.cell (p := ⟨dd, 2, none⟩) N1.lt (by simp; have := hF.out.2.2.2.1; have := hK.size; omega)).trans e2
      have hq2 : q < W2.heap.size := Nat.lt_of_lt_of_le hq1 K2.size
      have HX := Lib.hid (And.intro (RowV.old hO b1) (And.intro S1 (And.intro (hK.old b1) (And.intro hj (And.intro S2 (And.intro K2 (And.intro hcW (And.intro hfW (And.intro hc2 (And.intro hf2 (And.intro hq2 hqj)))))))))))
      clear hO hx hS hK hj S1 S2 K2 hwf hW1 hbw N1 hc hf hcW hfW hq1 hqj hbq hxL hQ
      have HB := Lib.hid b1
      clear b1
      cases bq with
      | true =>
        clear e22 hc2 hf2 hup
        go_wp2_with fail
        exact ⟨⟨i + 1, l, v3, by omega, by go_num, by omega, HX.out.1, ⟨HX.out.2.1.mono (by omega), Lib.hid (keysOf_old HY.out.2.2.2.out (by rw [HG.out.2]; exact hik) HY.out.2.2.1 HY.out.2.1 (by simpa using HY.out.1))⟩, HX.out.2.2.1, HX.out.2.2.2.1, HX.out.2.2.2.2.2.2.1, HX.out.2.2.2.2.2.2.2.1⟩, by simp [intOf]; omega⟩
      | false =>
        have hO2 : OwnN .u64 W2 v3 l := RowV.kp HX.out.1 HX.out.2.2.2.2.2.1 (by intro j hj h; have := HX.out.2.2.2.1 j hj; simp at h; omega)
        go_wp2_with (at_builtin; go_must (refine wpList_u641 _ rfl _ _ rfl rfl v3 l rfl _ _ rfl rfl hO2 (by omega) ?_); intro v' w' hO' hT'; have q3 : w'.cell? ⟨q, 0, none⟩ = some v3 := (hT'.1.cell (p := ⟨q, 0, none⟩) hq2 (fun h => HX.out.2.2.2.2.2.2.2.2.2.2.2 q h rfl)).trans hc2; have f3 : w'.frozen? ⟨q, 0, none⟩ = false := (hT'.1.frozen (p := ⟨q, 0, none⟩) hq2 (fun h => HX.out.2.2.2.2.2.2.2.2.2.2.2 q h rfl)).trans hf2; obtain ⟨b', c', hv', _⟩ := ownN_form hO'; rw [List.length_append, List.length_singleton] at hv'; subst hv'; replace hO' := Lib.hid (And.intro hO' hT'); clear hT')
        go_roundw
        case rel =>
          have hK3 : Kp [q, q + 1] w1 w' := ((HX.out.2.2.1.step HX.out.2.2.2.2.2.1 (by simp)).step hO'.out.2.1 (fun j hj => .inr (by have := HX.out.2.2.2.1 j hj; have := hF.out.2.2.2.1; omega)))
          have hnq : ∀ j ∈ (Value.slice b' (l.length + 1) c').ownBlock.toList, q + 1 < j := fun j hj => by
            rcases hO'.out.2.2 j hj with h | h
            · exact HX.out.2.2.2.1 j h
            · have := hF.out.2.2.2.1; have := HX.out.2.2.1.size; have := HX.out.2.2.2.2.2.1.size; omega
          have hKs : Kp [q] w' (w'.setCell ⟨q, 0, none⟩ (.slice b' (l.length + 1) c')) := (Kp.refl _ _).setCell (.inl (by simp)) _
          have hS3 : MapV 25 .u64 w' (q + 1) (i + 1) (setF (l ++ [(x.c.code : Int)])) := by rw [← setF_put]; exact HX.out.2.2.2.2.1.kp hO'.out.2.1 (fun h => by have := HX.out.2.2.2.1 _ h; omega)
          have hnn : ∀ j ∈ (Value.slice b' (l.length + 1) c').ownBlock.toList, j ∉ [q] := fun j hj h => by
            have h1 := hnq j hj
            rw [List.mem_singleton.1 h] at h1
            omega
          have hOK : OwnN .u64 (w'.setCell ⟨q, 0, none⟩ (.slice b' (l.length + 1) c')) (.slice b' (l.length + 1) c') (l ++ [(x.c.code : Int)]) := RowV.kp hO'.out.1 hKs hnn
          have hSK : MapV 25 .u64 (w'.setCell ⟨q, 0, none⟩ (.slice b' (l.length + 1) c')) (q + 1) (i + 1) (setF (l ++ [(x.c.code : Int)])) := hS3.kp hKs (fun h => by have := List.mem_singleton.1 h; omega)
          have hKK : Kp [q, q + 1] w1 (w'.setCell ⟨q, 0, none⟩ (.slice b' (l.length + 1) c')) := hK3.step hKs (fun j h => .inl (by rw [List.mem_singleton.1 h]; exact List.mem_cons_self))
          refine ⟨i + 1, l ++ [(x.c.code : Int)], .slice b' (l.length + 1) c', by omega, by go_num, by simp; omega, hOK, ⟨hSK, Lib.hid (keysOf_new HY.out.2.2.2.out (by rw [HG.out.2]; exact hik) HY.out.2.2.1 HY.out.2.1 (by simpa using HY.out.1))⟩, hKK, hnq, ?_, ?_⟩
          · rw [World.cell?_setCell_same _ _ _ q3]
          · rw [World.frozen?_setCell]; exact f3
        case measure => simp [intOf]; omega
    · have hdd : decide ((i : Int) < (n : Int)) = false := by rw [decide_eq_false_iff_not]; omega
      have hik' : i = n := by omega
      subst hik'
      have hso := sortCodes_eq q v3 l wr hO (by omega) hc hqj
      have HQ := Lib.hid (And.intro hQ hl)
      have HX := Lib.hid (And.intro hbw (And.intro hso (And.intro hj (And.intro hF (And.intro hc (And.intro hqr hqj))))))
      clear hO hS hK hj hF hbw hso hf hqj hqr hQ
      go_wp2_with (go_at_call 47; refine HX.out.2.1.mono ?_; rintro _ w2 ⟨rfl, l', hl', hO', hK'⟩; have q4 : w2.cell? ⟨q, 0, none⟩ = some v3 := (hK'.cell (p := ⟨q, 0, none⟩) HX.out.2.2.2.2.2.1 (fun h => HX.out.2.2.2.2.2.2 q h rfl)).trans HX.out.2.2.2.2.1; replace hO' := Lib.hid (And.intro hl' (And.intro hO' hK')); clear hl' hK')
      have hq := HQ.out.1.out
      rw [← HG.out.2] at hq
      refine bodyPost_ret (v := v3) (by simp [results, Tryz.results31, go_sem]) rfl ⟨⟨v3, l', rfl, hO'.out.2.1, keysOf_sorted hq hO'.out.1.1 hO'.out.1.2, by rw [hO'.out.1.1.length_eq, HG.out.2]; exact HQ.out.2, fun j hj => by have := HX.out.2.2.1 j hj; have := HX.out.2.2.2.1.out.2.2.2.2.1; omega⟩, ?_⟩
      exact ((Kp.of_below HX.out.1 []).step hO'.out.2.2 (fun j hj => .inr (by have := HX.out.2.2.1 j hj; have := HX.out.2.2.2.1.out.2.2.2.2.1; omega))).below
end Go.Proofs.YtcljffldbnoljaaGreatDoor

namespace Go.Proofs.YtcljffldbnoljaaGreatDoor
open Go.RowKit Go.Sort

theorem flatK_push {α : Type} [Inhabited α] (enc : α → List Value) (k : Nat) (hk : ∀ x, (enc x).length = k) (_h0 : 0 < k) (d : Array α) (x : α) : (flatK enc k (d.push x)).toList = (flatK enc k d).toList ++ enc x := by
  have hm : (d.size + 1) * k = d.size * k + k := Nat.succ_mul _ _
  apply List.ext_getElem
  · simp only [Array.length_toList, size_flatK, Array.size_push, List.length_append, hk]; exact hm
  · intro t h1 h2
    have ht : t < d.size * k + k := by simp only [Array.length_toList, size_flatK, Array.size_push] at h1; omega
    simp only [Array.getElem_toList, flatK, Array.getElem_map, Array.getElem_range, List.getElem_append, Array.length_toList, Array.size_map, Array.size_range]
    by_cases hd : t < d.size * k
    · rw [dif_pos hd]
      have hq : t / k < d.size := Nat.div_lt_of_lt_mul (by rw [Nat.mul_comm]; exact hd)
      have e : (d.push x)[t / k]! = d[t / k]! := by rw [getElem!_pos (d.push x) (t / k) (by simp; omega), getElem!_pos d (t / k) hq, Array.getElem_push_lt hq]
      rw [e]
    · rw [dif_neg hd]
      have hq : t / k = d.size := by
        apply Nat.div_eq_of_lt_le <;> omega
      have hr : t % k = t - d.size * k := by
        have := Nat.div_add_mod t k
        rw [hq, Nat.mul_comm] at this
        omega
      have hlt : t - d.size * k < (enc x).length := by rw [hk]; omega
      simp [hq, hr, hlt]

/-- A slice of entries that the code has made. -/
def OwnV (w : World) (v : Value) (d : Array EntL) : Prop := RowV w 5 v d.size (flatK enC 5 d).toList
theorem OwnV.old {w w' : World} {v : Value} {d : Array EntL} (h : OwnV w v d) (b : Below w.heap.size w w') : OwnV w' v d := RowV.old h b
theorem ownV_enS {w : World} {v : Value} {d : Array EntL} (h : OwnV w v d) (hd : d.toList ≠ []) : EnS w v d.toList := by
  obtain ⟨h1, h2 | ⟨g, cap, hv, hg, hle, hmx, hc, hok⟩⟩ := h
  · exact absurd (by simpa using h2.2) hd
  · refine ⟨hd, g, 0, cap, by simpa using hv, holdsK_ens (fun t ht => ⟨?_, ?_⟩)⟩
    · have : t < (flatK enC 5 d).size := ht
      rw [Nat.zero_add]
      refine hc t _ ?_
      rw [Array.getElem?_toList, Array.getElem?_eq_getElem this, getElem!_pos (flatK enC 5 d) t this]
      rfl
    · have : t < d.size * 5 := by simpa using ht
      rw [Nat.zero_add]
      exact (hok t (by omega)).2
theorem AppT.old {w w1 w2 : World} {u v : Value} (h : AppT w w1 u v) (b : Below w1.heap.size w1 w2) : AppT w w2 u v := ⟨h.1.old b, h.2⟩
theorem AppT.below {w w1 : World} {v : Value} (h : AppT w w1 (.slice none 0 0) v) : Below w.heap.size w w1 := Kp.below h.1
/-- Is it of this hash function? -/
def codeIs (code : Int) (x : EntL) : Bool := decide ((x.c.code : Int) = code)

theorem wpList_ent1 {ops : Array Oper} {rest : List Oper} {o : Oper} {a : Act} {Q : Exit → Act → World → Prop} (w : World) (hgd : o.guard = none) (s x : Operand)
    (ho : o.op = .call { callee := .builtin .append, args := #[s, x], argTypes := #[22, 22] }) (hot : o.type = 22)
    (v : Value) (d : Array EntL) (hs : a.eval s = v) (y : EntL) (k : Nat) (hx : a.eval x = .slice (some ⟨k, 0, none⟩) 1 1) (hk : k = w.heap.size) (h : OwnV w v d) (hn : d.size + 1 ≤ 1000000000)
    (K : ∀ v' w', OwnV w' v' (d.push y) → AppT w w' v v' → wpList Tryz.prog ops Q rest (a.put o.dst v') w') : wpList Tryz.prog ops Q (o :: rest) a (w.alloc (.cells (enC y).toArray 33)) := by
  subst hk
  refine wpList_lit w hgd s x 22 33 (flatK enC 5 d).toList (enC y) ho hot entE _ 5 48 Tryz.underlying22 entI entZ (by kernel_rfl) (by kernel_rfl) (by kernel_rfl) (by decide) v d.size hs h hx rfl (enC_one y) hn (by decide)
    (fun v' w' hR' hT => K v' w' ?_ hT)
  unfold OwnV
  rw [flatK_push enC 5 enC_len (by decide) d y, Array.size_push]
  exact hR'

/-- What it answers: the entries of that code. -/
def CdPostX (w : World) (L : List EntL) (code : Int) (e : Ending) (w' : World) : Prop := (∃ v' d, e = .returned v' ∧ OwnV w' v' d ∧ d.toList = L.filter (codeIs code) ∧ ∀ i ∈ v'.ownBlock.toList, w.heap.size ≤ i) ∧ Below w.heap.size w w'

set_option maxRecDepth 100000 in
set_option maxHeartbeats 4000000 in
theorem coded_eq (v : Value) (L : List EntL) (code : Int) (w : World) (h : EnS w v L) (hn : L.length ≤ 1000) : Calls Tryz.prog 33 #[v, .int .u64 code] w (CdPostX w L code) := by
  obtain ⟨_, b, off, c, rfl, hF⟩ := h
  obtain ⟨n, hnl⟩ : ∃ n, L.length = n := ⟨_, rfl⟩
  rw [hnl] at hn ⊢
  replace hF := Lib.hid (And.intro hF hnl)
  clear hnl
  go_enter Tryz.func33, Tryz.ntmps33
  go_wp2_with fail
  go_loopw [5, 10] (fun v5 v10 wr => ∃ (i : Nat) (d : Array EntL), i ≤ n ∧ v10 = .int .i64 i ∧ d.size ≤ i ∧ OwnV wr v5 d ∧ AppT w wr (.slice none 0 0) v5 ∧ Hid (d.toList = (L.take i).filter (codeIs code))) (fun v5 v10 _ => n - (intOf v10).toNat)
  case atStart => exact ⟨0, #[], Nat.zero_le _, rfl, Nat.le_refl _, by unfold OwnV; simpa [flatK] using rowV_nil w 5, AppT.refl _ _, Lib.hid (by simp)⟩
  case round =>
    obtain ⟨i, d, hi, rfl, hd, hO, hT, hQ⟩ := hrel
    by_cases hik : i < n
    · have hdd : decide ((i : Int) < (n : Int)) = true := by rw [decide_eq_true_eq]; omega
      have hiL : i < L.length := by rw [hF.out.2]; exact hik
      obtain ⟨x, hxL⟩ : ∃ x, L[i] = x := ⟨_, rfl⟩
      have hEr := (Ens.old hF.out.1 hT.below) i hiL
      rw [hxL] at hEr
      obtain ⟨x0, x1, x2, x3, x4⟩ := hEr
      have hgl := World.block_lt_of_cell? wr _ x0
      have b1 := Old.alloc (Below.refl wr.heap.size wr) (.cells (enC x).toArray 33)
      have hto : RowKit.Below wr.heap.size wr (wr.alloc (.cells (enC x).toArray 33)) := b1
      have HX := Lib.hid (And.intro (OwnV.old hO b1) (And.intro (hT.old b1) (And.intro hO hT)))
      have hiI : (i : Int) < (n : Int) := by omega
      have hts : L.take (i + 1) = L.take i ++ [x] := by rw [List.take_succ_eq_append_getElem hiL, hxL]
      by_cases hcx : (x.c.code : Int) = code
      · have hb : ((x.c.code : Int) == code) = true := by simp [hcx]
        have hq2 : (d.push x).toList = (L.take (i + 1)).filter (codeIs code) := by
          rw [hts, List.filter_append, ← hQ.out]
          simp [codeIs, hcx]
        have HQ2 := Lib.hid hq2
        have HC := Lib.hid hcx
        clear hO hT b1 hxL hts hq2 hQ hcx hto
        go_wp2_with (at_builtin; go_must (refine wpList_ent1 _ rfl _ _ rfl rfl u5 d rfl x _ rfl (by simp) HX.out.1 (by omega) ?_); intro v' w' hB' hT'; replace hB' := Lib.hid (And.intro hB' (AppT.trans HX.out.2.1 hT')); clear hT')
        all_goals go_roundw
        case rel => exact ⟨i + 1, d.push x, by omega, rfl, by simp; omega, hB'.out.1, hB'.out.2, HQ2⟩
        case measure => simp [intOf]; omega
      · have hb : ((x.c.code : Int) == code) = false := by simp [hcx]
        have hq2 : d.toList = (L.take (i + 1)).filter (codeIs code) := by
          rw [hts, List.filter_append, ← hQ.out]
          simp [codeIs, hcx]
        have HQ2 := Lib.hid hq2
        clear hO hT b1 hxL hts hq2 hQ hto
        go_wp2_with fail
        all_goals go_roundw
        case rel => exact ⟨i + 1, d, by omega, rfl, by omega, HX.out.1, HX.out.2.1, HQ2⟩
        case measure => simp [intOf]; omega
    · have hdd : decide ((i : Int) < (n : Int)) = false := by rw [decide_eq_false_iff_not]; omega
      have hik' : i = n := by omega
      subst hik'
      replace hO := Lib.hid (And.intro hO (And.intro hT hQ.out))
      clear hT hQ
      go_wp2_with fail
      have hq := hO.out.2.2
      rw [← hF.out.2, List.take_length] at hq
      refine bodyPost_ret (v := u5) (by simp [results, Tryz.results33, go_sem]) rfl ⟨⟨u5, d, rfl, hO.out.1, hq, fun j hj => (hO.out.2.1.2 j hj).resolve_left (by simp [Value.ownBlock])⟩, hO.out.2.1.below⟩
end Go.Proofs.YtcljffldbnoljaaGreatDoor

namespace Go.Proofs.YtcljffldbnoljaaGreatDoor
open Go.RowKit

theorem leBytes_snoc : ∀ (k v : Nat), Lib.leBytes (k + 1) v = Lib.leBytes k v ++ [(v / 256 ^ k % 256).toUInt8]
  | 0, v => by simp [Lib.leBytes]
  | k + 1, v => by
    rw [Lib.leBytes, leBytes_snoc k (v / 256), Nat.div_div_eq_div_mul, show 256 * 256 ^ k = 256 ^ (k + 1) from by rw [Nat.pow_succ, Nat.mul_comm]]
    rfl

/-- The row behind k rounds. -/
def leRow (k v : Nat) : List Value := Lib.byteCells (Lib.leBytes k v) ++ List.replicate (8 - k) (.int .u8 0)
theorem leRow_len (k v : Nat) (h : k ≤ 8) : (leRow k v).length = 8 := by
  rw [leRow, List.length_append, Lib.byteCells_length, Lib.leBytes_length, List.length_replicate]; omega
theorem leRow_step (k v : Nat) (h : k < 8) : (leRow k v).toArray.setIfInBounds k (.int .u8 (((v / 256 ^ k % 256).toUInt8.toNat : Nat) : Int)) = (leRow (k + 1) v).toArray := by
  have e1 : (Lib.byteCells (Lib.leBytes k v)).length = k := by rw [Lib.byteCells_length, Lib.leBytes_length]
  have e2 : List.replicate (8 - k) (Value.int .u8 0) = .int .u8 0 :: List.replicate (8 - (k + 1)) (.int .u8 0) := by
    rw [show 8 - k = (8 - (k + 1)) + 1 from by omega]; rfl
  rw [List.setIfInBounds_toArray, leRow, leRow, leBytes_snoc, Lib.byteCells_append, e2, List.set_append_right _ _ (by omega), e1, Nat.sub_self, List.append_assoc]
  rfl

/-- A header's 40 bytes. -/
def hdBytes (a b c d e : Int) : List UInt8 := Lib.leBytes 8 a.toNat ++ Lib.leBytes 8 b.toNat ++ Lib.leBytes 8 c.toNat ++ Lib.leBytes 8 d.toNat ++ Lib.leBytes 8 e.toNat

end Go.Proofs.YtcljffldbnoljaaGreatDoor

namespace Go.Proofs.YtcljffldbnoljaaGreatDoor
open Go.RowKit

/-- The bytes l, in a row that the code has made, or nil. -/
def OwnL (w : World) (v : Value) (l : List UInt8) : Prop := RowV w 1 v l.length (Lib.byteCells l)
theorem u8T : ∃ i0, Tryz.prog.info? 5 = some i0 ∧ i0.zero = some (.int .u8 0) ∧ i0.size = 1 ∧ i0.bytes = 1 := ⟨(Tryz.prog.info? 5).get (by kernel_rfl), by kernel_rfl, by kernel_rfl, by kernel_rfl, by kernel_rfl⟩
theorem u8_cell (x : Int) (h0 : 0 ≤ x) (h1 : x < 256) : Lib.byteCells [UInt8.ofNat x.toNat] = [.int .u8 x] := by
  have : (UInt8.ofNat x.toNat).toNat = x.toNat := by rw [UInt8.toNat_ofNat']; omega
  simp [Lib.byteCells, this]
  omega
theorem ownL_nil (w : World) : OwnL w (.slice none 0 0) [] := rowV_nil w 1
theorem OwnL.old {w w' : World} {v : Value} {l : List UInt8} (h : OwnL w v l) (b : Below w.heap.size w w') : OwnL w' v l := RowV.old h b
theorem OwnL.kp {w w' : World} {v : Value} {l : List UInt8} {L : List Nat} (h : OwnL w v l) (b : Kp L w w') (hL : ∀ i ∈ v.ownBlock.toList, i ∉ L) : OwnL w' v l := RowV.kp h b hL
theorem OwnL.lt {w : World} {v : Value} {l : List UInt8} (h : OwnL w v l) : ∀ i ∈ v.ownBlock.toList, i < w.heap.size := RowV.lt h
theorem ownL_form {w : World} {v : Value} {l : List UInt8} (h : OwnL w v l) : ∃ b c, v = .slice b l.length c := by
  obtain ⟨_, ⟨rfl, h1⟩ | ⟨g, cap, rfl, _⟩⟩ := h
  · exact ⟨none, 0, by rw [h1]⟩
  · exact ⟨_, cap, rfl⟩

theorem wpList_byteL {ops : Array Oper} {rest : List Oper} {o : Oper} {a : Act} {Q : Exit → Act → World → Prop} (w : World) (hgd : o.guard = none) (s x : Operand)
    (ho : o.op = .call { callee := .builtin .append, args := #[s, x], argTypes := #[47, 47] }) (hot : o.type = 47)
    (v : Value) (l : List UInt8) (hs : a.eval s = v) (X : Int) (hX : 0 ≤ X ∧ X < 256) (hx : a.eval x = .slice (some ⟨w.heap.size, 0, none⟩) 1 1) (h : OwnL w v l) (hn : l.length + 1 ≤ 1000000000)
    (K : ∀ v' w', OwnL w' v' (l ++ [UInt8.ofNat X.toNat]) → AppT w w' v v' → wpList Tryz.prog ops Q rest (a.put o.dst v') w') : wpList Tryz.prog ops Q (o :: rest) a (w.alloc (.cells #[.int .u8 X] 5)) := by
  obtain ⟨i0, h1, h2, h3, h4⟩ := u8T
  have e := u8_cell X hX.1 hX.2
  have hk := wpList_lit (rest := rest) (ops := ops) (Q := Q) w hgd s x 47 5 (Lib.byteCells l) (Lib.byteCells [UInt8.ofNat X.toNat]) ho hot i0 _ 1 1 Tryz.underlying47 h1 h2 h3 h4 rfl (by decide) v l.length hs h hx rfl (by rw [e]; simp [Value.oneCell']) hn (by decide)
    (fun v' w' hR' hT => K v' w' (by
      have hh : RowV w' 1 v' (l.length + 1) (Lib.byteCells l ++ Lib.byteCells [UInt8.ofNat X.toNat]) := hR'
      unfold OwnL
      rw [List.length_append, Lib.byteCells_append]
      exact hh) hT)
  rw [e] at hk
  exact hk

/-- What it answers: the bytes m. -/
def LPost (w : World) (v : Value) (m : List UInt8) (e : Ending) (w' : World) : Prop := ∃ v', e = .returned v' ∧ OwnL w' v' m ∧ AppT w w' v v'

set_option maxRecDepth 100000 in
theorem le_byte (x : Int) (i : Nat) (h0 : 0 ≤ x) : UInt8.ofNat (x / 2 ^ (8 * i) % 256).toNat = (x.toNat / 256 ^ i % 256).toUInt8 := by
  have hv : x / 2 ^ (8 * i) % 256 = ((x.toNat / 256 ^ i % 256 : Nat) : Int) := by
    rw [show (256 : Nat) ^ i = 2 ^ (8 * i) from by rw [Nat.pow_mul]]
    conv => lhs; rw [← Int.toNat_of_nonneg h0]
    push_cast
    rfl
  rw [hv, Int.toNat_natCast]

set_option maxRecDepth 100000 in
set_option maxHeartbeats 2000000 in
theorem low_eq (v : Value) (l : List UInt8) (x : Int) (k : Nat) (w : World) (h : OwnL w v l) (hx : 0 ≤ x) (hn : l.length ≤ 900000000) (hk : k ≤ 8) : Calls Tryz.prog 32 #[v, .int .u64 x, .int .i64 k] w (LPost w v (l ++ Lib.leBytes k x.toNat)) := by
  have HI := Lib.hid (And.intro h hx)
  clear h hx
  go_enter Tryz.func32, Tryz.ntmps32
  go_wp2_with fail
  go_loopw [0, 7] (fun v0 v7 wr => ∃ i : Nat, i ≤ k ∧ v7 = .int .i64 i ∧ OwnL wr v0 (l ++ Lib.leBytes i x.toNat) ∧ AppT w wr v v0) (fun v0 v7 _ => k - (intOf v7).toNat)
  case atStart => exact ⟨0, Nat.zero_le _, rfl, by simpa [Lib.leBytes] using HI.out.1, AppT.refl _ _⟩
  case round =>
    obtain ⟨i, hi, rfl, hB, hT⟩ := hrel
    by_cases hik : i < k
    · have hdd : decide ((i : Int) < (k : Int)) = true := by rw [decide_eq_true_eq]; omega
      have hlen : (l ++ Lib.leBytes i x.toNat).length + 1 ≤ 1000000000 := by rw [List.length_append, Lib.leBytes_length]; omega
      have HLn := Lib.hid hlen
      clear hlen
      go_wp2_with (at_builtin; go_must (refine wpList_byteL _ rfl _ _ rfl rfl u0 _ rfl _ ⟨Int.emod_nonneg _ (by decide), Int.emod_lt_of_pos _ (by decide)⟩ rfl hB HLn.out ?_); intro v' w' hB' hT'; replace hB' := Lib.hid (And.intro hB' (AppT.trans hT hT')); clear hT')
      go_roundw
      case rel =>
        refine ⟨i + 1, by omega, rfl, ?_, hB'.out.2⟩
        have e := hB'.out.1
        rw [le_byte x i HI.out.2] at e
        rw [leBytes_snoc, ← List.append_assoc]
        exact e
      case measure => simp [intOf]; omega
    · have hdd : decide ((i : Int) < (k : Int)) = false := by rw [decide_eq_false_iff_not]; omega
      have hik' : i = k := by omega
      subst hik'
      replace hB := Lib.hid (And.intro hB hT)
      clear hT
      go_wp2_with fail
      refine bodyPost_ret (v := u0) (by simp [results, Tryz.results32, go_sem]) rfl ⟨_, rfl, hB.out.1, hB.out.2⟩
end Go.Proofs.YtcljffldbnoljaaGreatDoor
