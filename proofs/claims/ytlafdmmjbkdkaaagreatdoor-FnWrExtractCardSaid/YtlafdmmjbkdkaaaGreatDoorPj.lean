/-
  Rows of numbers that the code makes; spec.Places. Conditions: as each law says.
-/
import Derived.Test.YtlafdmmjbkdkaaaGreatDoorJMa
import Derived.Test.YtlafdmmjbkdkaaaGreatDoorJPd
import Derived.Test.YtlafdmmjbkdkaaaGreatDoorJGt
namespace Go.Proofs.YtlafdmmjbkdkaaaGreatDoor
open Go.RowKit

/-- A row of numbers. -/
def OwnN (K : IntKind) (w : World) (v : Value) (l : List Int) : Prop := RowV w 1 v l.length (l.map (Value.int K))
theorem OwnN.old {K : IntKind} {w w' : World} {v : Value} {l : List Int} (h : OwnN K w v l) (b : Below w.heap.size w w') : OwnN K w' v l := RowV.old h b
theorem ownN_nil (K : IntKind) (w : World) : OwnN K w (.slice none 0 0) [] := rowV_nil w 1

theorem ownN_form {K : IntKind} {w : World} {v : Value} {l : List Int} (h : OwnN K w v l) : ∃ b c, v = .slice b l.length c ∧ ∀ (i : Nat) (hi : i < l.length), ∃ g, b = some ⟨g, 0, none⟩ ∧ l.length ≤ c ∧ g < w.heap.size ∧ w.cell? ⟨g, i, none⟩ = some (.int K l[i]) := by
  obtain ⟨h0, ⟨rfl, h1⟩ | ⟨g, cap, rfl, h2, h3, h4, h5, h6⟩⟩ := h
  · exact ⟨none, 0, by rw [h1], fun i hi => by omega⟩
  · exact ⟨_, cap, rfl, fun i hi => ⟨g, rfl, h3, h2, h5 i _ (by simp [hi])⟩⟩

theorem intT : ∃ i0, Tryz.prog.info? 3 = some i0 ∧ i0.zero = some (.int .i64 0) ∧ i0.size = 1 ∧ i0.bytes = 8 := ⟨(Tryz.prog.info? 3).get (by kernel_rfl), by kernel_rfl, by kernel_rfl, by kernel_rfl, by kernel_rfl⟩
theorem u64T : ∃ i0, Tryz.prog.info? 26 = some i0 ∧ i0.zero = some (.int .u64 0) ∧ i0.size = 1 ∧ i0.bytes = 8 := ⟨(Tryz.prog.info? 26).get (by kernel_rfl), by kernel_rfl, by kernel_rfl, by kernel_rfl, by kernel_rfl⟩

theorem wpList_int1 {ops : Array Oper} {rest : List Oper} {o : Oper} {a : Act} {Q : Exit → Act → World → Prop} (w : World) (hgd : o.guard = none) (s x : Operand)
    (ho : o.op = .call { callee := .builtin .append, args := #[s, x], argTypes := #[93, 93] }) (hot : o.type = 93)
    (v : Value) (l : List Int) (hs : a.eval s = v) (X : Int) (k : Nat) (hx : a.eval x = .slice (some ⟨k, 0, none⟩) 1 1) (hk : k = w.heap.size) (h : OwnN .i64 w v l) (hn : l.length + 1 ≤ 1000000000)
    (K : ∀ v' w', OwnN .i64 w' v' (l ++ [X]) → AppT w w' v v' → wpList Tryz.prog ops Q rest (a.put o.dst v') w') : wpList Tryz.prog ops Q (o :: rest) a (w.alloc (.cells #[.int .i64 X] 3)) := by
  subst hk
  obtain ⟨i0, h1, h2, h3, h4⟩ := intT
  exact wpList_lit w hgd s x 93 3 (l.map (Value.int .i64)) [.int .i64 X] ho hot i0 _ 1 8 Tryz.underlying93 h1 h2 h3 h4 rfl (by decide) v l.length hs h hx rfl (by simp [Value.oneCell']) hn (by decide)
    (fun v' w' hR' hT => K v' w' (by unfold OwnN; simpa using hR') hT)

theorem wpList_u641 {ops : Array Oper} {rest : List Oper} {o : Oper} {a : Act} {Q : Exit → Act → World → Prop} (w : World) (hgd : o.guard = none) (s x : Operand)
    (ho : o.op = .call { callee := .builtin .append, args := #[s, x], argTypes := #[126, 126] }) (hot : o.type = 126)
    (v : Value) (l : List Int) (hs : a.eval s = v) (X : Int) (k : Nat) (hx : a.eval x = .slice (some ⟨k, 0, none⟩) 1 1) (hk : k = w.heap.size) (h : OwnN .u64 w v l) (hn : l.length + 1 ≤ 1000000000)
    (K : ∀ v' w', OwnN .u64 w' v' (l ++ [X]) → AppT w w' v v' → wpList Tryz.prog ops Q rest (a.put o.dst v') w') : wpList Tryz.prog ops Q (o :: rest) a (w.alloc (.cells #[.int .u64 X] 26)) := by
  subst hk
  obtain ⟨i0, h1, h2, h3, h4⟩ := u64T
  exact wpList_lit w hgd s x 126 26 (l.map (Value.int .u64)) [.int .u64 X] ho hot i0 _ 1 8 Tryz.underlying126 h1 h2 h3 h4 rfl (by decide) v l.length hs h hx rfl (by simp [Value.oneCell']) hn (by decide)
    (fun v' w' hR' hT => K v' w' (by unfold OwnN; simpa using hR') hT)

theorem ownN_made (K : IntKind) (w : World) (e : TypeId) (X : Int) : OwnN K (w.alloc (.cells #[.int K X] e)) (.slice (some ⟨w.heap.size, 0, none⟩) 1 1) [X] := by
  have hN := Blk.new w e #[.int K X]
  refine ⟨rfl, .inr ⟨w.heap.size, 1, rfl, hN.lt, Nat.le_refl _, by decide, fun j u hu => ?_, fun i hi => ⟨?_, hN.frozen i⟩⟩⟩
  · rw [hN.cell]; simpa using hu
  · have : i = 0 := by omega
    subst this
    rw [hN.cell]; rfl

/-- What it answers: n + 1 places. -/
def PlPost (w : World) (n : Nat) (e : Ending) (w' : World) : Prop := (∃ v' l, e = .returned v' ∧ OwnN .i64 w' v' l ∧ l.length = n + 1 ∧ ∀ x ∈ l, 0 ≤ x ∧ x ≤ 10000000) ∧ Below w.heap.size w w'

set_option maxRecDepth 100000 in
set_option maxHeartbeats 4000000 in
theorem places_any (a : Option Addr) (n c : Nat) (L : List CidL) (a2 : Option Addr) (n2 c2 : Nat) (B : List BlkL) (w : World) (h : CarR a n L a2 n2 B w) (hok : CarOk L B) :
    Calls Tryz.prog 46 #[.agg #[.slice a n c, .slice a2 n2 c2]] w (PlPost w n2) := by
  have b0 := Old.alloc (Below.refl w.heap.size w) (.cells #[.slice a n c, .slice a2 n2 c2] 25)
  have B0 := Blk.new w 25 #[.slice a n c, .slice a2 n2 c2]
  obtain ⟨W, hW⟩ : ∃ W, w.alloc (.cells #[.slice a n c, .slice a2 n2 c2] 25) = W := ⟨_, rfl⟩
  rw [hW] at b0 B0
  have q0 : W.cell? ⟨w.heap.size, 0, none⟩ = some (.slice a n c) := B0.cell 0
  have hn2 : n2 ≤ 50 := by rw [← h.hB]; exact hok.n2
  have hh := specHeader_any a n c L W h.hL (by rw [← h.hL]; have := hok.n; omega) (h.old b0).hC hok.L
  have hl0 := hdrB_len L hok.L (by have := hok.n; omega)
  obtain ⟨P, hP⟩ : ∃ P, hdrB (wrR L) = P := ⟨_, rfl⟩
  rw [hP] at hh hl0
  have H := Lib.hid (And.intro hh (And.intro h (And.intro hok B0)))
  clear hh h hok hP B0
  go_enter Tryz.func46, Tryz.ntmps46
  go_wp2_with fail
  clear hW
  refine H.out.1.mono ?_
  rintro e w1 ⟨rfl, b1⟩
  have b01 := Old.trans b0 b1
  have q1 : w1.cell? ⟨w.heap.size, 1, none⟩ = some (.slice a2 n2 c2) := (H.out.2.2.2.old b1).cell 1
  have hlw := Nat.lt_of_lt_of_le H.out.2.2.2.lt b1.size
  clear q0 b0 b1
  go_wp2_with fail
  have hM := ownN_made .i64 w1 3 (P.length : Int)
  have hbM := Old.alloc b01 (.cells #[.int .i64 (P.length : Int)] 3)
  have hge := b01.size
  clear q1
  have HM := Lib.hid (And.intro hM (And.intro hbM hge))
  clear hM hbM hge b01
  go_loopw [3, 4, 16] (fun v3 v4 i wr => ∃ (k A : Nat) (l : List Int), k ≤ n2 ∧ i = .int .i64 k ∧ v3 = .int .i64 A ∧ A ≤ 40010 + k * 33100 ∧ l.length = k + 1 ∧ (∀ x ∈ l, 0 ≤ x ∧ x ≤ 10000000) ∧ OwnN .i64 wr v4 l ∧ AppT w wr (.slice none 0 0) v4) (fun _ _ i _ => n2 - (intOf i).toNat)
  case atStart => exact ⟨0, P.length, [(P.length : Int)], Nat.zero_le _, rfl, rfl, by omega, rfl, fun x hx => by simp at hx; omega, HM.out.1, Kp.of_below HM.out.2.1 _, fun i hi => by simp [Value.ownBlock] at hi; exact .inr (by have := HM.out.2.2; omega)⟩
  case round =>
    obtain ⟨k, A, l, hk, rfl, rfl, hA, hl, hlx, hO, hT⟩ := hrel
    by_cases hkn : k < n2
    · obtain h0 | ⟨b, off, rfl, hcs⟩ := H.out.2.1.hK
      · omega
      have hkL : k < B.length := by rw [H.out.2.1.hB]; exact hkn
      obtain ⟨c0, c1, c2, c3, c4⟩ := (hcs.old hT.below) k hkL
      have htd := H.out.2.2.1.B _ (List.getElem_mem hkL)
      obtain ⟨x, hx⟩ : ∃ x, B[k] = x := ⟨_, rfl⟩
      rw [hx] at c0 c1 c2 c3 c4 htd
      have hkI : (k : Int) < (n2 : Int) := by omega
      have hse := fun W => specSection_any x W htd.1 (by omega) (by omega)
      have hsl := sec_lenR htd
      have b1 := Old.alloc (Below.refl wr.heap.size wr) (.cells #[.int .u64 (x.c.version : Nat), .int .u64 (x.c.codec : Nat), .int .u64 (x.c.code : Nat), .string ⟨x.c.digest.toArray⟩, .string ⟨x.data.toArray⟩] 41)
      obtain ⟨K, hK⟩ : ∃ K, x.sec = K := ⟨_, rfl⟩
      rw [hK] at hsl
      have HX := Lib.hid (And.intro hse (And.intro hK (And.intro b1 (And.intro hO (And.intro hT hlx)))))
      clear hcs hse htd hx b1 hK hO hT hlx
      go_wp2_with fail
      clear c0 c1 c2 c3 c4
      refine (HX.out.1 _).mono ?_
      rw [HX.out.2.1]
      rintro e w2 ⟨rfl, b2⟩
      have hB2 := Old.trans HX.out.2.2.1 b2
      have hO2 := HX.out.2.2.2.1.old hB2
      have hT2 := HX.out.2.2.2.2.1.old hB2
      clear b2 hB2
      replace hT2 := Lib.hid hT2
      go_wp2_with (at_builtin; go_must (refine wpList_int1 _ rfl _ _ rfl rfl u4 l rfl _ _ rfl rfl hO2 (by omega) ?_); intro v' w' hO' hT'; replace hO' := Lib.hid (And.intro hO' (AppT.trans hT2.out hT')); clear hT')
      go_roundw
      case rel =>
        refine ⟨k + 1, A + K.length, l ++ [(A : Int) + (K.length : Int)], hkn, by go_num, by go_num, by omega, by simp [hl], fun y hy => ?_, hO'.out.1, hO'.out.2⟩
        rcases List.mem_append.1 hy with h | h
        · exact HX.out.2.2.2.2.2 y h
        · simp at h; omega
      case measure => simp [intOf]; omega
    · have hkn' : k = n2 := by omega
      subst hkn'
      replace hO := Lib.hid (And.intro hO (And.intro hT hlx))
      clear hT hlx
      go_wp2_with fail
      refine bodyPost_ret (v := u4) (by simp [results, Tryz.results46, go_sem]) rfl ⟨⟨u4, l, rfl, hO.out.1, hl, hO.out.2.2⟩, hO.out.2.1.below⟩
end Go.Proofs.YtlafdmmjbkdkaaaGreatDoor
