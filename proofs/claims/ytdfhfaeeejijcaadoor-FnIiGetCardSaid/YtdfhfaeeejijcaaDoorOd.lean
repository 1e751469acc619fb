/-
  spec.OfDigest: its walk. Conditions: as the contract says.
-/
import Derived.Test.YtdfhfaeeejijcaaDoorEd
namespace Go.Proofs.YtdfhfaeeejijcaaDoor
open Go.RowKit

theorem infoU64 : (Tryd.prog.info? 23).map (fun i => (i.zero, i.size, i.bytes)) = some (some (.int .u64 0), 1, 8) := by kernel_rfl
def u64s (l : List Nat) : List Value := l.map (fun n => .int .u64 (n : Nat))
theorem u64s_append (a b : List Nat) : u64s (a ++ b) = u64s a ++ u64s b := List.map_append
theorem u64s_length (a : List Nat) : (u64s a).length = a.length := List.length_map ..

/-- append(out, x): out is nil or the call's own; the new number has just been laid in a block of its own. -/
theorem wpList_append_u64 {P : Program} (w0 : World) {ops : Array Oper} {rest : List Oper} {o : Oper} {a : Act} {Q : Exit → Act → World → Prop} (hgd : o.guard = none) (s x : Operand) (t : TypeId)
    (ho : o.op = .call { callee := .builtin .append, args := #[s, x], argTypes := #[t, t] })
    (base : Nat) (e : TypeId) (i : TypeInfo) (ht : P.underlying t = some (.slice e)) (hi : P.info? e = some i) (hz : i.zero = some (.int .u64 0)) (hsize : i.size = 1) (hby : i.bytes = 8)
    (v : Value) (l : List Nat) (hs : a.eval s = v) (hown : w0.ownsRow base e 1 v l.length (u64s l)) (b : Nat) (hx : a.eval x = .slice (some ⟨w0.heap.size, 0, none⟩) 1 1)
    (hlim : l.length + 1 ≤ 1000000) (hbase : base ≤ w0.heap.size)
    (h : ∀ v' w', w'.ownsRow base e 1 v' (l ++ [b]).length (u64s (l ++ [b])) → w0.grownBy w' v.ownBlock → wpList P ops Q rest (a.put o.dst v') w') :
    wpList P ops Q (o :: rest) a (w0.alloc (.cells #[.int .u64 (b : Nat)] e)) := by
  refine wpList_append_own _ hgd s x t ho base e i (.int .u64 0) 1 8 ht hi hz hsize hby rfl (by decide) v l.length (u64s l) hs (hown.alloc _) ⟨w0.heap.size, 0, none⟩ 1 1 [.int .u64 (b : Nat)] hx rfl ?_ ?_ (by unfold maxLen; omega) (by omega) (by simp; omega) ?_
  · intro j u hj
    match j, hj with
    | 0, hj => simp at hj; subst hj; simp [Addr.add, go_sem]
  · intro u hu
    simp at hu; subst hu; rfl
  · intro v' w' h1 h2 _
    refine h v' w' (by simpa [u64s] using h1) ⟨h2.os, h2.tape, h2.output, Nat.le_trans (by simp) h2.size, fun k hk hne => (h2.block k (by simp; omega) hne).trans (Below.heap_alloc _ _ _ hk)⟩

/-- The offsets of the entries with a digest. -/
def ofd (L : List EntL) (d : List UInt8) : List Nat := (L.filter (fun x => decide (x.c.digest = d))).map EntL.off
theorem ofd_take {L : List EntL} {d : List UInt8} {k : Nat} (h : k < L.length) : ofd (L.take (k + 1)) d = ofd (L.take k) d ++ (if L[k].c.digest = d then [L[k].off] else []) := by
  rw [List.take_add_one, List.getElem?_eq_getElem h]
  unfold ofd
  simp only [Option.toList_some, List.filter_append, List.map_append]
  by_cases he : L[k].c.digest = d
  · simp [he]
  · simp [he]
theorem ofd_len (L : List EntL) (d : List UInt8) : (ofd L d).length ≤ L.length := by
  unfold ofd
  rw [List.length_map]
  exact List.length_filter_le _ _
theorem ofd_mem {L : List EntL} {d : List UInt8} {n : Nat} : n ∈ ofd L d ↔ ∃ x ∈ L, x.c.digest = d ∧ x.off = n := by
  unfold ofd
  simp [and_assoc]

/-- What OfDigest comes to. -/
def OdPost (L : List EntL) (d : List UInt8) (w : World) (e : Ending) (w' : World) : Prop :=
  ∃ v, e = .returned v ∧ w'.ownsRow w.heap.size 23 1 v (ofd L d).length (u64s (ofd L d)) ∧ Below w.heap.size w w'

theorem str_ne {a b : List UInt8} (h : a ≠ b) : ¬ (⟨a.toArray⟩ : ByteArray) = ⟨b.toArray⟩ := fun e => h (by
  have := congrArg (fun x : ByteArray => x.data.toList) e
  simpa using this)

set_option maxRecDepth 100000 in
set_option maxHeartbeats 4000000 in
theorem ofDigest_any (a : Option Addr) (n c : Nat) (L : List EntL) (d : List UInt8) (w : World) (hL : L.length = n) (hn : n ≤ 1000) (hf : ∀ x ∈ L, x.fit) (h : n = 0 ∨ ∃ b off, a = some ⟨b, off, none⟩ ∧ Ens w b off L) :
    Calls Tryd.prog 13 #[.slice a n c, .string ⟨d.toArray⟩] w (OdPost L d w) := by
  obtain ⟨i0, hi0, hz0, hz1, hz2⟩ := info_parts infoU64
  have HF := Lib.hid (And.intro hL (And.intro hf h))
  have HI := Lib.hid (And.intro hi0 (And.intro hz0 (And.intro hz1 hz2)))
  clear hL hf h hi0 hz0 hz1 hz2
  go_enter Tryd.func13, Tryd.ntmps13
  go_wp2_with fail
  go_loopw [5, 10] (fun v i wr => ∃ k : Nat, k ≤ n ∧ i = .int .i64 k ∧ Below w.heap.size w wr ∧ wr.ownsRow w.heap.size 23 1 v (ofd (L.take k) d).length (u64s (ofd (L.take k) d))) (fun _ i _ => n - (intOf i).toNat)
  case atStart => exact ⟨0, Nat.zero_le _, rfl, Below.refl _ _, World.ownsRow_nil _ _ _ _⟩
  case round =>
    obtain ⟨k, hk, rfl, hB, hown⟩ := hrel
    by_cases hkn : k < n
    · obtain h0 | ⟨b, off, rfl, hcs⟩ := HF.out.2.2
      · omega
      have hkL : k < L.length := by rw [HF.out.1]; exact hkn
      obtain ⟨c0, c1, c2, c3, c4⟩ := (hcs.old hB) k hkL
      have htk := ofd_take (d := d) hkL
      have hol := ofd_len (L.take k) d
      rw [List.length_take] at hol
      obtain ⟨x, hx⟩ : ∃ x, L[k] = x := ⟨_, rfl⟩
      rw [hx] at c0 c1 c2 c3 c4 htk
      obtain ⟨O, hO⟩ : ∃ O, ofd (L.take k) d = O := ⟨_, rfl⟩
      rw [hO] at hown htk hol
      have hkI : (k : Int) < (n : Int) := by omega
      have hOl : O.length + 1 ≤ 1000000 := by omega
      have hB1 := Old.alloc hB (.cells #[.int .u64 (x.c.version : Nat), .int .u64 (x.c.codec : Nat), .int .u64 (x.c.code : Nat), .string ⟨x.c.digest.toArray⟩, .int .u64 (x.off : Nat)] 38)
      have hown1 := hown.alloc (.cells #[.int .u64 (x.c.version : Nat), .int .u64 (x.c.codec : Nat), .int .u64 (x.c.code : Nat), .string ⟨x.c.digest.toArray⟩, .int .u64 (x.off : Nat)] 38)
      obtain ⟨W1, hW1⟩ : ∃ W1, wr.alloc (.cells #[.int .u64 (x.c.version : Nat), .int .u64 (x.c.codec : Nat), .int .u64 (x.c.code : Nat), .string ⟨x.c.digest.toArray⟩, .int .u64 (x.off : Nat)] 38) = W1 := ⟨_, rfl⟩
      rw [hW1] at hB1 hown1
      have B1 : Blk W1 wr.heap.size 38 #[.int .u64 (x.c.version : Nat), .int .u64 (x.c.codec : Nat), .int .u64 (x.c.code : Nat), .string ⟨x.c.digest.toArray⟩, .int .u64 (x.off : Nat)] := by rw [← hW1]; exact Blk.new _ _ _
      have q3 : W1.cell? ⟨wr.heap.size, 3, none⟩ = some (.string ⟨x.c.digest.toArray⟩) := B1.cell 3
      have q4 : W1.cell? ⟨wr.heap.size, 4, none⟩ = some (.int .u64 (x.off : Nat)) := B1.cell 4
      have HX := Lib.hid htk
      have hsz1 := hB1.size
      clear hcs hx htk hO hol hB hown B1
      by_cases he : x.c.digest = d
      · rw [he] at q3 hW1 c3
        have HEq := Lib.hid he
        clear he
        go_wp2_with (at_builtin; go_must (refine wpList_append_u64 W1 rfl (.tmp 19) (.tmp 22) 33 rfl w.heap.size 23 i0 Tryd.underlying33 HI.out.1 HI.out.2.1 HI.out.2.2.1 HI.out.2.2.2 u5 O rfl hown1 x.off rfl hOl hsz1 ?_); intro v1 w2 hown2 hg2)
        have hB2 := grown_old hB1 hown1 hg2
        clear q3 q4 hown1 hg2 hB1 hW1
        go_wp2_with fail
        all_goals go_roundw
        case rel => exact ⟨k + 1, hkn, by go_num, hB2, by rw [HX.out, if_pos HEq.out]; exact hown2⟩
        case measure => simp [intOf]; omega
      · have HEq := Lib.hid he
        have hse : (x.c.digest == d) = false := by simpa using he
        have hse3 : ((⟨x.c.digest.toArray⟩ : ByteArray).toList == d) = false := by
          cases h : ((⟨x.c.digest.toArray⟩ : ByteArray).toList == d)
          · rfl
          · exfalso
            simp at h
            exact he h
        clear he
        go_wp2_with fail
        all_goals go_roundw
        case rel => exact ⟨k + 1, hkn, by go_num, hB1, by rw [HX.out, if_neg HEq.out, List.append_nil]; exact hown1⟩
        case measure => simp [intOf]; omega
    · have hkn' : k = n := by omega
      subst hkn'
      rw [List.take_of_length_le (by rw [HF.out.1]; exact Nat.le_refl _)] at hown
      have HO := Lib.hid (And.intro hown hB)
      clear hown hB
      go_wp2_with fail
      go_ret
      exact ⟨_, rfl, HO.out.1, HO.out.2⟩
end Go.Proofs.YtdfhfaeeejijcaaDoor
