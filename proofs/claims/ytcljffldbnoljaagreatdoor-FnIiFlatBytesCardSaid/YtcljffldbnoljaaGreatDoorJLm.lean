/-
  llrb.walkUpRot23: its walk. Conditions: as the contract says.
  (*llrb.LLRB).insertNoReplace, InsertNoReplace: their walks. Conditions: as each contract says.
-/
import Derived.Test.YtcljffldbnoljaaGreatDoorJRf
namespace Go.Proofs.YtcljffldbnoljaaGreatDoor
open Go.RowKit

theorem nodes_two {w : World} {b c : Nat} {x y : Rec} {p q p' q' : Tre} {k k' : Bool} (hb : Blk w b 100 #[x.val, p.ptr, q.ptr, .bool k]) (hc : Blk w c 100 #[y.val, p'.ptr, q'.ptr, .bool k']) : Nodes w [b, c] := by
  intro i hi
  simp at hi
  rcases hi with rfl | rfl
  · exact ⟨_, _, _, _, hb⟩
  · exact ⟨_, _, _, _, hc⟩

theorem rotL_tree {w w1 : World} {b c : Nat} {x y : Rec} {l rl rr : Tre} {k : Bool} (h : Tr w (.node b x l (.node c y rl rr false) k)) (nd : (Tre.node b x l (.node c y rl rr false) k).bs.Nodup)
    (B : Blk w1 b 100 #[x.val, l.ptr, rl.ptr, .bool false]) (C : Blk w1 c 100 #[y.val, .pointer (some ⟨b, 0, none⟩), rr.ptr, .bool k]) (K : Kp [b, c] w w1) :
    Tr w1 (.node c y (.node b x l rl false) rr k) := by
  have hn := nodes_two h.1 h.2.2.2.1
  simp only [Tre.bs, List.nodup_cons, List.mem_append, List.mem_cons, List.nodup_append] at nd
  refine ⟨C, h.2.2.2.2.1.kp K hn, ⟨B, h.2.1.kp K hn, Tr.kp K hn h.2.2.1 ?_, Tr.kp K hn h.2.2.2.2.2.1 ?_⟩, Tr.kp K hn h.2.2.2.2.2.2 ?_⟩
  all_goals
    intro i hi
    simp only [List.mem_cons, List.not_mem_nil, or_false, not_or]
    refine ⟨?_, ?_⟩
    all_goals rintro rfl
    all_goals first | (simp_all; done) | grind
theorem rotR_tree {w w1 : World} {b c : Nat} {x y : Rec} {ll lr r : Tre} {k : Bool} (h : Tr w (.node b x (.node c y ll lr false) r k)) (nd : (Tre.node b x (.node c y ll lr false) r k).bs.Nodup)
    (B : Blk w1 b 100 #[x.val, lr.ptr, r.ptr, .bool false]) (C : Blk w1 c 100 #[y.val, ll.ptr, .pointer (some ⟨b, 0, none⟩), .bool k]) (K : Kp [b, c] w w1) :
    Tr w1 (.node c y ll (.node b x lr r false) k) := by
  have hn := nodes_two h.1 h.2.2.1.1
  simp only [Tre.bs, List.nodup_cons, List.mem_append, List.mem_cons, List.nodup_append] at nd
  refine ⟨C, h.2.2.1.2.1.kp K hn, Tr.kp K hn h.2.2.1.2.2.1 ?_, ⟨B, h.2.1.kp K hn, Tr.kp K hn h.2.2.1.2.2.2 ?_, Tr.kp K hn h.2.2.2 ?_⟩⟩
  all_goals
    intro i hi
    simp only [List.mem_cons, List.not_mem_nil, or_false, not_or]
    refine ⟨?_, ?_⟩
    all_goals rintro rfl
    all_goals first | (simp_all; done) | grind
theorem flip_tree {w w1 : World} {b c d : Nat} {x y z : Rec} {p1 p2 p3 p4 : Tre} {k m n : Bool} (h : Tr w (.node b x (.node c y p1 p2 m) (.node d z p3 p4 n) k)) (nd : (Tre.node b x (.node c y p1 p2 m) (.node d z p3 p4 n) k).bs.Nodup)
    (B : Blk w1 b 100 #[x.val, .pointer (some ⟨c, 0, none⟩), .pointer (some ⟨d, 0, none⟩), .bool (!k)]) (C : Blk w1 c 100 #[y.val, p1.ptr, p2.ptr, .bool (!m)]) (D : Blk w1 d 100 #[z.val, p3.ptr, p4.ptr, .bool (!n)]) (K : Kp [b, c, d] w w1) :
    Tr w1 (.node b x (.node c y p1 p2 (!m)) (.node d z p3 p4 (!n)) (!k)) := by
  have hn : Nodes w [b, c, d] := by
    intro i hi
    simp at hi
    rcases hi with rfl | rfl | rfl
    · exact ⟨_, _, _, _, h.1⟩
    · exact ⟨_, _, _, _, h.2.2.1.1⟩
    · exact ⟨_, _, _, _, h.2.2.2.1⟩
  simp only [Tre.bs, List.nodup_cons, List.mem_append, List.mem_cons, List.nodup_append] at nd
  refine ⟨B, h.2.1.kp K hn, ⟨C, h.2.2.1.2.1.kp K hn, Tr.kp K hn h.2.2.1.2.2.1 ?_, Tr.kp K hn h.2.2.1.2.2.2 ?_⟩, ⟨D, h.2.2.2.2.1.kp K hn, Tr.kp K hn h.2.2.2.2.2.1 ?_, Tr.kp K hn h.2.2.2.2.2.2 ?_⟩⟩
  all_goals
    intro i hi
    simp only [List.mem_cons, List.not_mem_nil, or_false, not_or]
    refine ⟨?_, ?_, ?_⟩
    all_goals rintro rfl
    all_goals first | (simp_all; done) | grind

/-- What walking up comes to. -/
def WuPost (s : Tre) (w : World) (e : Ending) (w' : World) : Prop :=
  ∃ s' : Tre, e = .returned s'.ptr ∧ Tr w' s' ∧ s'.ino = s.ino ∧ s'.bs.Perm s.bs ∧ Kp s.bs w w'

theorem red_node : ∀ {s : Tre}, s.red = true → ∃ b x l r, s = .node b x l r false
  | .leaf, h => by cases h
  | .node b x l r k, h => ⟨b, x, l, r, by simp [Tre.red] at h; rw [h]⟩
theorem Kp.sub {L M : List Nat} {a b : World} (h : Kp L a b) (hs : ∀ i ∈ L, i ∈ M) : Kp M a b := h.weaken (fun i hi => .inl (hs i hi))
theorem isRed_is (s : Tre) (w : World) (h : Tr w s) (v : Bool) (hv : s.red = v) : Calls Tryz.prog 100 #[s.ptr] w fun e w' => e = .returned (.bool v) ∧ w = w' := by
  rw [← hv]
  exact isRed_any s w h

set_option maxRecDepth 100000 in
set_option maxHeartbeats 4000000 in
theorem walkUp_any (b : Nat) (x : Rec) (l r : Tre) (k : Bool) (w : World) (h : Tr w (.node b x l r k)) (nd : (Tre.node b x l r k).bs.Nodup) :
    Calls Tryz.prog 73 #[.pointer (some ⟨b, 0, none⟩)] w (WuPost (.node b x l r k) w) := by
  have q1 : w.cell? ⟨b, 1, none⟩ = some l.ptr := h.1.cell 1
  have q2 : w.cell? ⟨b, 2, none⟩ = some r.ptr := h.1.cell 2
  have H := Lib.hid (And.intro h nd)
  clear h nd
  cases hr : r.red
  · have HR := Lib.hid (isRed_is r w H.out.1.2.2.2 false hr)
    cases hl : l.red
    · have HL := Lib.hid (isRed_is l w H.out.1.2.2.1 false hl)
      clear hr hl
      go_enter Tryz.func73, Tryz.ntmps73
      go_wp2_with fail
      refine HR.out.mono ?_
      rintro e _ ⟨rfl, rfl⟩
      go_wp2_with fail
      refine HL.out.mono ?_
      rintro e _ ⟨rfl, rfl⟩
      go_wp2_with fail
      refine HL.out.mono ?_
      rintro e _ ⟨rfl, rfl⟩
      go_wp2_with fail
      go_ret
      exact ⟨.node b x l r k, rfl, H.out.1, rfl, .refl _, Kp.refl _ _⟩
    · obtain ⟨c, y, ll, lr, rfl⟩ := red_node hl
      replace q1 : w.cell? ⟨b, 1, none⟩ = some (.pointer (some ⟨c, 0, none⟩)) := H.out.1.1.cell 1
      have u1 : w.cell? ⟨c, 1, none⟩ = some ll.ptr := H.out.1.2.2.1.1.cell 1
      have HL : Hid (Calls Tryz.prog 100 #[.pointer (some ⟨c, 0, none⟩)] w fun e w' => e = .returned (.bool true) ∧ w = w') := Lib.hid (isRed_is (.node c y ll lr false) w H.out.1.2.2.1 true rfl)
      clear hr hl
      cases hll : ll.red
      · have HLL := Lib.hid (isRed_is ll w H.out.1.2.2.1.2.2.1 false hll)
        clear hll
        go_enter Tryz.func73, Tryz.ntmps73
        go_wp2_with fail
        refine HR.out.mono ?_
        rintro e _ ⟨rfl, rfl⟩
        go_wp2_with fail
        refine HL.out.mono ?_
        rintro e _ ⟨rfl, rfl⟩
        go_wp2_with fail
        refine HLL.out.mono ?_
        rintro e _ ⟨rfl, rfl⟩
        go_wp2_with fail
        refine HL.out.mono ?_
        rintro e _ ⟨rfl, rfl⟩
        go_wp2_with fail
        refine HR.out.mono ?_
        rintro e _ ⟨rfl, rfl⟩
        go_wp2_with fail
        go_ret
        exact ⟨.node b x (.node c y ll lr false) r k, rfl, H.out.1, rfl, .refl _, Kp.refl _ _⟩
      · obtain ⟨d, z, p3, p4, rfl⟩ := red_node hll
        have hLL := isRed_is (.node d z p3 p4 false) w H.out.1.2.2.1.2.2.1 true rfl
        have hbc : b ≠ c := by have := H.out.2; simp only [Tre.bs, List.nodup_cons, List.mem_append, List.mem_cons] at this; grind
        have HT := Lib.hid (rotateRight_any b c x.val y.val (some ⟨d, 0, none⟩) lr.adr r.adr k w H.out.1.1 H.out.1.2.2.1.1 hbc)
        have HLL := Lib.hid hLL
        clear hLL hbc hll
        replace u1 : w.cell? ⟨c, 1, none⟩ = some (.pointer (some ⟨d, 0, none⟩)) := H.out.1.2.2.1.1.cell 1
        go_enter Tryz.func73, Tryz.ntmps73
        go_wp2_with fail
        refine HR.out.mono ?_
        rintro e _ ⟨rfl, rfl⟩
        go_wp2_with fail
        refine HL.out.mono ?_
        rintro e _ ⟨rfl, rfl⟩
        go_wp2_with fail
        refine HLL.out.mono ?_
        rintro e _ ⟨rfl, rfl⟩
        go_wp2_with fail
        refine HT.out.mono ?_
        rintro e w1 ⟨rfl, B1, C1, K1⟩
        have T1 := rotR_tree H.out.1 H.out.2 B1 C1 K1
        have hP : (Tre.node c y (.node d z p3 p4 false) (.node b x lr r false) k).bs.Perm (Tre.node b x (.node c y (.node d z p3 p4 false) lr false) r k).bs := List.perm_iff_count.2 fun a => by simp [Tre.bs, List.count_cons, List.count_append]; omega
        have nd1 := hP.nodup_iff.2 H.out.2
        have hrL := isRed_is (.node d z p3 p4 false) w1 T1.2.2.1 true rfl
        have hrR := isRed_is (.node b x lr r false) w1 T1.2.2.2 true rfl
        have hbb : c ≠ d ∧ c ≠ b ∧ d ≠ b := by simp only [Tre.bs, List.nodup_cons, List.mem_append, List.mem_cons] at nd1; grind
        have hf := flip_any c d b y.val z.val x.val p3.adr p4.adr lr.adr r.adr k false false w1 T1.1 T1.2.2.1.1 T1.2.2.2.1 hbb.1 hbb.2.1 hbb.2.2
        have HL1 := Lib.hid (And.intro hrL (And.intro hrR (And.intro hf (And.intro T1 (And.intro nd1 (And.intro hP K1))))))
        have m1 : w1.cell? ⟨c, 1, none⟩ = some (.pointer (some ⟨d, 0, none⟩)) := C1.cell 1
        have m2 : w1.cell? ⟨c, 2, none⟩ = some (.pointer (some ⟨b, 0, none⟩)) := C1.cell 2
        clear hrL hrR hf T1 nd1 hP K1 hbb B1 C1 HT q1 q2 u1
        go_wp2_with fail
        refine HL1.out.1.mono ?_
        rintro e _ ⟨rfl, rfl⟩
        go_wp2_with fail
        refine HL1.out.2.1.mono ?_
        rintro e _ ⟨rfl, rfl⟩
        go_wp2_with fail
        refine HL1.out.2.2.1.mono ?_
        rintro e w2 ⟨rfl, B2, C2, D2, K2⟩
        go_wp2_with fail
        go_ret
        refine ⟨.node c y (.node d z p3 p4 true) (.node b x lr r true) (!k), rfl, flip_tree HL1.out.2.2.2.1 HL1.out.2.2.2.2.1 B2 C2 D2 K2, by simp [Tre.ino], List.perm_iff_count.2 fun a => by simp [Tre.bs, List.count_cons, List.count_append]; omega, ?_⟩
        exact (HL1.out.2.2.2.2.2.2.sub (fun i hi => by simp [Tre.bs] at hi ⊢; grind)).trans (K2.sub (fun i hi => by simp [Tre.bs] at hi ⊢; grind))
  · obtain ⟨c, y, rl, rr, rfl⟩ := red_node hr
    replace q2 : w.cell? ⟨b, 2, none⟩ = some (.pointer (some ⟨c, 0, none⟩)) := H.out.1.1.cell 2
    have HR : Hid (Calls Tryz.prog 100 #[.pointer (some ⟨c, 0, none⟩)] w fun e w' => e = .returned (.bool true) ∧ w = w') := Lib.hid (isRed_is (.node c y rl rr false) w H.out.1.2.2.2 true rfl)
    clear hr
    cases hl : l.red
    · have HL := Lib.hid (isRed_is l w H.out.1.2.2.1 false hl)
      have hbc : b ≠ c := by have := H.out.2; simp only [Tre.bs, List.nodup_cons, List.mem_append, List.mem_cons] at this; grind
      have HT := Lib.hid (rotateLeft_any b c x.val y.val l.adr rl.adr rr.adr k w H.out.1.1 H.out.1.2.2.2.1 hbc)
      have HBC := Lib.hid hbc
      have HLr := Lib.hid hl
      clear hbc hl
      go_enter Tryz.func73, Tryz.ntmps73
      go_wp2_with fail
      refine HR.out.mono ?_
      rintro e _ ⟨rfl, rfl⟩
      go_wp2_with fail
      refine HL.out.mono ?_
      rintro e _ ⟨rfl, rfl⟩
      go_wp2_with fail
      refine HT.out.mono ?_
      rintro e w1 ⟨rfl, B1, C1, K1⟩
      have T1 := rotL_tree H.out.1 H.out.2 B1 C1 K1
      have hP : (Tre.node c y (.node b x l rl false) rr k).bs.Perm (Tre.node b x l (.node c y rl rr false) k).bs := List.perm_iff_count.2 fun a => by simp [Tre.bs, List.count_cons, List.count_append]; omega
      have nd1 := hP.nodup_iff.2 H.out.2
      have hrL : Calls Tryz.prog 100 #[.pointer (some ⟨b, 0, none⟩)] w1 fun e w' => e = .returned (.bool true) ∧ w1 = w' := isRed_is (.node b x l rl false) w1 T1.2.2.1 true rfl
      have hrLL := isRed_is l w1 T1.2.2.1.2.2.1 false HLr.out
      have m1 : w1.cell? ⟨c, 1, none⟩ = some (.pointer (some ⟨b, 0, none⟩)) := C1.cell 1
      have n1 : w1.cell? ⟨b, 1, none⟩ = some l.ptr := B1.cell 1
      have HL1 := Lib.hid (And.intro hrL (And.intro hrLL (And.intro T1 (And.intro nd1 (And.intro hP K1)))))
      clear hrL hrLL nd1 hP K1 B1 HT q1 q2 HR HL
      cases hrr : rr.red
      · have m2 : w1.cell? ⟨c, 2, none⟩ = some rr.ptr := C1.cell 2
        have HRR := Lib.hid (isRed_is rr w1 T1.2.2.2 false hrr)
        clear hrr T1 C1
        go_wp2_with fail
        refine HL1.out.1.mono ?_
        rintro e _ ⟨rfl, rfl⟩
        go_wp2_with fail
        refine HL1.out.2.1.mono ?_
        rintro e _ ⟨rfl, rfl⟩
        go_wp2_with fail
        refine HL1.out.1.mono ?_
        rintro e _ ⟨rfl, rfl⟩
        go_wp2_with fail
        refine HRR.out.mono ?_
        rintro e _ ⟨rfl, rfl⟩
        go_wp2_with fail
        go_ret
        refine ⟨.node c y (.node b x l rl false) rr k, rfl, HL1.out.2.2.1, by simp [Tre.ino], HL1.out.2.2.2.2.1, ?_⟩
        exact HL1.out.2.2.2.2.2.sub (fun i hi => by simp [Tre.bs] at hi ⊢; grind)
      · obtain ⟨d, z, p3, p4, rfl⟩ := red_node hrr
        have m2 : w1.cell? ⟨c, 2, none⟩ = some (.pointer (some ⟨d, 0, none⟩)) := C1.cell 2
        have HRR : Hid (Calls Tryz.prog 100 #[.pointer (some ⟨d, 0, none⟩)] w1 fun e w' => e = .returned (.bool true) ∧ w1 = w') := Lib.hid (isRed_is (.node d z p3 p4 false) w1 T1.2.2.2 true rfl)
        have hbb : c ≠ b ∧ c ≠ d ∧ b ≠ d := by have nd1 := HL1.out.2.2.2.1; simp only [Tre.bs, List.nodup_cons, List.mem_append, List.mem_cons] at nd1; grind
        have HF := Lib.hid (flip_any c b d y.val x.val z.val l.adr rl.adr p3.adr p4.adr k false false w1 T1.1 T1.2.2.1.1 T1.2.2.2.1 hbb.1 hbb.2.1 hbb.2.2)
        clear hrr T1 C1 hbb
        go_wp2_with fail
        refine HL1.out.1.mono ?_
        rintro e _ ⟨rfl, rfl⟩
        go_wp2_with fail
        refine HL1.out.2.1.mono ?_
        rintro e _ ⟨rfl, rfl⟩
        go_wp2_with fail
        refine HL1.out.1.mono ?_
        rintro e _ ⟨rfl, rfl⟩
        go_wp2_with fail
        refine HRR.out.mono ?_
        rintro e _ ⟨rfl, rfl⟩
        go_wp2_with fail
        refine HF.out.mono ?_
        rintro e w2 ⟨rfl, B2, C2, D2, K2⟩
        go_wp2_with fail
        go_ret
        refine ⟨.node c y (.node b x l rl true) (.node d z p3 p4 true) (!k), rfl, flip_tree HL1.out.2.2.1 HL1.out.2.2.2.1 B2 C2 D2 K2, by simp [Tre.ino], List.perm_iff_count.2 fun a => by simp [Tre.bs, List.count_cons, List.count_append]; omega, ?_⟩
        exact (HL1.out.2.2.2.2.2.sub (fun i hi => by simp [Tre.bs] at hi ⊢; grind)).trans (K2.sub (fun i hi => by simp [Tre.bs] at hi ⊢; grind))
    · obtain ⟨d0, y0, ll, lr, rfl⟩ := red_node hl
      replace q1 : w.cell? ⟨b, 1, none⟩ = some (.pointer (some ⟨d0, 0, none⟩)) := H.out.1.1.cell 1
      have u1 : w.cell? ⟨d0, 1, none⟩ = some ll.ptr := H.out.1.2.2.1.1.cell 1
      have HL : Hid (Calls Tryz.prog 100 #[.pointer (some ⟨d0, 0, none⟩)] w fun e w' => e = .returned (.bool true) ∧ w = w') := Lib.hid (isRed_is (.node d0 y0 ll lr false) w H.out.1.2.2.1 true rfl)
      clear hl
      cases hll : ll.red
      · have HLL := Lib.hid (isRed_is ll w H.out.1.2.2.1.2.2.1 false hll)
        have hbb : b ≠ d0 ∧ b ≠ c ∧ d0 ≠ c := by have nd1 := H.out.2; simp only [Tre.bs, List.nodup_cons, List.nodup_append, List.mem_append, List.mem_cons] at nd1; grind
        have HF := Lib.hid (flip_any b d0 c x.val y0.val y.val ll.adr lr.adr rl.adr rr.adr k false false w H.out.1.1 H.out.1.2.2.1.1 H.out.1.2.2.2.1 hbb.1 hbb.2.1 hbb.2.2)
        clear hll hbb
        go_enter Tryz.func73, Tryz.ntmps73
        go_wp2_with fail
        refine HR.out.mono ?_
        rintro e _ ⟨rfl, rfl⟩
        go_wp2_with fail
        refine HL.out.mono ?_
        rintro e _ ⟨rfl, rfl⟩
        go_wp2_with fail
        refine HL.out.mono ?_
        rintro e _ ⟨rfl, rfl⟩
        go_wp2_with fail
        refine HLL.out.mono ?_
        rintro e _ ⟨rfl, rfl⟩
        go_wp2_with fail
        refine HL.out.mono ?_
        rintro e _ ⟨rfl, rfl⟩
        go_wp2_with fail
        refine HR.out.mono ?_
        rintro e _ ⟨rfl, rfl⟩
        go_wp2_with fail
        refine HF.out.mono ?_
        rintro e w2 ⟨rfl, B2, C2, D2, K2⟩
        go_wp2_with fail
        go_ret
        refine ⟨.node b x (.node d0 y0 ll lr true) (.node c y rl rr true) (!k), rfl, flip_tree H.out.1 H.out.2 B2 C2 D2 K2, by simp [Tre.ino], List.perm_iff_count.2 fun a => by simp [Tre.bs, List.count_cons, List.count_append], ?_⟩
        exact K2.sub (fun i hi => by simp [Tre.bs] at hi ⊢; grind)
      · obtain ⟨d, z, p3, p4, rfl⟩ := red_node hll
        have hLL := isRed_is (.node d z p3 p4 false) w H.out.1.2.2.1.2.2.1 true rfl
        have hbc : b ≠ d0 := by have := H.out.2; simp only [Tre.bs, List.nodup_cons, List.mem_append, List.mem_cons] at this; grind
        have HT := Lib.hid (rotateRight_any b d0 x.val y0.val (some ⟨d, 0, none⟩) lr.adr (some ⟨c, 0, none⟩) k w H.out.1.1 H.out.1.2.2.1.1 hbc)
        have HLL := Lib.hid hLL
        clear hLL hbc hll
        replace u1 : w.cell? ⟨d0, 1, none⟩ = some (.pointer (some ⟨d, 0, none⟩)) := H.out.1.2.2.1.1.cell 1
        go_enter Tryz.func73, Tryz.ntmps73
        go_wp2_with fail
        refine HR.out.mono ?_
        rintro e _ ⟨rfl, rfl⟩
        go_wp2_with fail
        refine HL.out.mono ?_
        rintro e _ ⟨rfl, rfl⟩
        go_wp2_with fail
        refine HL.out.mono ?_
        rintro e _ ⟨rfl, rfl⟩
        go_wp2_with fail
        refine HLL.out.mono ?_
        rintro e _ ⟨rfl, rfl⟩
        go_wp2_with fail
        refine HT.out.mono ?_
        rintro e w1 ⟨rfl, B1, C1, K1⟩
        have T1 := rotR_tree H.out.1 H.out.2 B1 C1 K1
        have hP : (Tre.node d0 y0 (.node d z p3 p4 false) (.node b x lr (.node c y rl rr false) false) k).bs.Perm (Tre.node b x (.node d0 y0 (.node d z p3 p4 false) lr false) (.node c y rl rr false) k).bs := List.perm_iff_count.2 fun a => by simp [Tre.bs, List.count_cons, List.count_append]; omega
        have nd1 := hP.nodup_iff.2 H.out.2
        have hrL := isRed_is (.node d z p3 p4 false) w1 T1.2.2.1 true rfl
        have hrR := isRed_is (.node b x lr (.node c y rl rr false) false) w1 T1.2.2.2 true rfl
        have hbb : d0 ≠ d ∧ d0 ≠ b ∧ d ≠ b := by simp only [Tre.bs, List.nodup_cons, List.mem_append, List.mem_cons] at nd1; grind
        have hf := flip_any d0 d b y0.val z.val x.val p3.adr p4.adr lr.adr (some ⟨c, 0, none⟩) k false false w1 T1.1 T1.2.2.1.1 T1.2.2.2.1 hbb.1 hbb.2.1 hbb.2.2
        have HL1 := Lib.hid (And.intro hrL (And.intro hrR (And.intro hf (And.intro T1 (And.intro nd1 (And.intro hP K1))))))
        have m1 : w1.cell? ⟨d0, 1, none⟩ = some (.pointer (some ⟨d, 0, none⟩)) := C1.cell 1
        have m2 : w1.cell? ⟨d0, 2, none⟩ = some (.pointer (some ⟨b, 0, none⟩)) := C1.cell 2
        clear hrL hrR hf T1 nd1 hP K1 hbb B1 C1 HT q1 q2 u1
        go_wp2_with fail
        refine HL1.out.1.mono ?_
        rintro e _ ⟨rfl, rfl⟩
        go_wp2_with fail
        refine HL1.out.2.1.mono ?_
        rintro e _ ⟨rfl, rfl⟩
        go_wp2_with fail
        refine HL1.out.2.2.1.mono ?_
        rintro e w2 ⟨rfl, B2, C2, D2, K2⟩
        go_wp2_with fail
        go_ret
        refine ⟨.node d0 y0 (.node d z p3 p4 true) (.node b x lr (.node c y rl rr false) true) (!k), rfl, flip_tree HL1.out.2.2.2.1 HL1.out.2.2.2.2.1 B2 C2 D2 K2, by simp [Tre.ino], List.perm_iff_count.2 fun a => by simp [Tre.bs, List.count_cons, List.count_append]; omega, ?_⟩
        exact (HL1.out.2.2.2.2.2.2.sub (fun i hi => by simp [Tre.bs] at hi ⊢; grind)).trans (K2.sub (fun i hi => by simp [Tre.bs] at hi ⊢; grind))
end Go.Proofs.YtcljffldbnoljaaGreatDoor

namespace Go.Proofs.YtcljffldbnoljaaGreatDoor
open Go.RowKit

/-- In order. -/
def Ord (L : List Rec) : Prop := L.Pairwise (fun a b => ltB b.d a.d = false)
theorem ltB_asymm {a b : List UInt8} (h : ltB a b = true) : ltB b a = false := by
  cases hb : ltB b a
  · rfl
  · have := ltB_trans h hb
    rw [ltB_irrefl] at this
    cases this
/-- x ahead of a, and a not behind y: x ahead of y. -/
theorem ltB_le {x a y : List UInt8} (h : ltB x a = true) (k : ltB y a = false) : ltB x y = true := by
  cases ha : ltB a y
  · rw [ltB_total ha k] at h; exact h
  · exact ltB_trans h ha
theorem ord_left {l r l' : List Rec} {x y : Rec} (h : Ord (l ++ y :: r)) (hl : Ord l') (hm : ∀ a ∈ l', a = x ∨ a ∈ l) (hx : ltB x.d y.d = true) : Ord (l' ++ y :: r) := by
  unfold Ord at h hl ⊢
  rw [List.pairwise_append] at h ⊢
  refine ⟨hl, h.2.1, fun a ha b hb => ?_⟩
  rcases hm a ha with rfl | ha
  · rcases List.mem_cons.1 hb with rfl | hb
    · exact ltB_asymm hx
    · have hyb := (List.pairwise_cons.1 h.2.1).1 b hb
      cases hba : ltB b.d a.d
      · rfl
      · have := ltB_trans hba hx
        rw [hyb] at this
        cases this
  · exact h.2.2 a ha b hb
theorem ord_right {l r r' : List Rec} {x y : Rec} (h : Ord (l ++ y :: r)) (hr : Ord r') (hm : ∀ a ∈ r', a = x ∨ a ∈ r) (hx : ltB x.d y.d = false) : Ord (l ++ y :: r') := by
  unfold Ord at h hr ⊢
  rw [List.pairwise_append] at h ⊢
  have hyr := (List.pairwise_cons.1 h.2.1).1
  refine ⟨h.1, List.pairwise_cons.2 ⟨fun b hb => ?_, hr⟩, fun a ha b hb => ?_⟩
  · rcases hm b hb with rfl | hb
    · exact hx
    · exact hyr b hb
  · rcases List.mem_cons.1 hb with rfl | hb
    · exact h.2.2 a ha _ (by simp)
    · rcases hm b hb with rfl | hb
      · have hay := h.2.2 a ha y (by simp)
        cases hba : ltB b.d a.d
        · rfl
        · have := ltB_le hba hay
          rw [hx] at this
          cases this
      · exact h.2.2 a ha b (by simp [hb])
theorem ord_sub {l r : List Rec} {y : Rec} (h : Ord (l ++ y :: r)) : Ord l ∧ Ord r := by
  unfold Ord at h ⊢
  rw [List.pairwise_append] at h
  exact ⟨h.1, (List.pairwise_cons.1 h.2.1).2⟩

set_option maxRecDepth 100000 in
theorem walkDown_any (a : Option Addr) (w : World) : Calls Tryz.prog 72 #[.pointer a] w fun e w' => e = .returned (.pointer a) ∧ w = w' := by
  go_enter Tryz.func72, Tryz.ntmps72
  go_wp2_with fail
  go_ret
  exact ⟨rfl, rfl⟩

/-- What an insertion comes to. -/
def InsPost (s : Tre) (x : Rec) (w : World) (e : Ending) (w' : World) : Prop :=
  ∃ s' : Tre, e = .returned (.pointer s'.adr) ∧ Tr w' s' ∧ s'.ino.Perm (x :: s.ino) ∧ (Ord s.ino → Ord s'.ino) ∧ s'.bs.Nodup ∧ (∀ i ∈ s'.bs, i ∈ s.bs ∨ w.heap.size ≤ i) ∧ Kp s.bs w w' ∧ s' ≠ .leaf

theorem Tr.set {w : World} {b i : Nat} {v : Value} {s : Tre} (h : Tr w s) (hn : Nodes w [b]) (hb : b ∉ s.bs) : Tr (w.setCell ⟨b, i, none⟩ v) s :=
  Tr.kp ((Kp.refl [b] w).setCell (p := ⟨b, i, none⟩) (.inl (by simp)) v) hn h (fun c hc hm => hb (by simp at hm; rw [← hm]; exact hc))

set_option maxRecDepth 100000 in
set_option maxHeartbeats 4000000 in
theorem insertRec_any (ta : Addr) (x : Rec) : ∀ (s : Tre) (w : World), Tr w s → s.bs.Nodup → It w x →
    Calls Tryz.prog 55 #[.pointer (some ta), .pointer s.adr, x.val] w (InsPost s x w) := by
  intro s
  induction s with
  | leaf =>
    intro w _ _ hx
    have HX := Lib.hid hx
    clear hx
    unfold Rec.val Tre.adr
    go_enter Tryz.func55, Tryz.ntmps55
    go_wp2_with fail
    refine (newNode_any _ _ w).mono ?_
    rintro e w1 ⟨rfl, B1, b1⟩
    go_wp2_with fail
    go_ret
    exact ⟨.node w.heap.size x .leaf .leaf false, rfl, ⟨B1, HX.out.old b1, trivial, trivial⟩, .refl _, fun _ => List.pairwise_singleton _ _, by simp [Tre.bs], fun i hi => .inr (by simp [Tre.bs] at hi; omega), Kp.of_below b1 _, by simp⟩
  | node b y l r k ihl ihr =>
    intro w h nd hx
    have hless := llrbLess_any x y w hx h.2.1
    have q0 : w.cell? ⟨b, 0, none⟩ = some y.val := h.1.cell 0
    have HL := Lib.hid (And.intro hless (And.intro h (And.intro nd hx)))
    have HI := Lib.hid (And.intro ihl ihr)
    clear hless h nd hx ihl ihr
    unfold Tre.adr
    go_enter Tryz.func55, Tryz.ntmps55
    go_wp2_with fail
    refine (walkDown_any _ w).mono ?_
    rintro e _ ⟨rfl, rfl⟩
    go_wp2_with fail
    refine HL.out.1.mono ?_
    rintro e w1 ⟨rfl, b1⟩
    have T1 := Tr.old b1 HL.out.2.1
    have X1 := HL.out.2.2.2.old b1
    have nd := HL.out.2.2.1
    have k01 : Kp (Tre.node b y l r k).bs w w1 := Kp.of_below b1 _
    clear q0
    have hbl : b ∉ l.bs ∧ b ∉ r.bs ∧ l.bs.Nodup ∧ r.bs.Nodup ∧ (∀ i ∈ l.bs, i ∉ r.bs) := by simp only [Tre.bs, List.nodup_cons, List.mem_append, List.nodup_append] at nd; grind
    cases hlt : ltB x.d y.d
    · have HC := Lib.hid (HI.out.2 w1 T1.2.2.2 hbl.2.2.2.1 X1)
      have q2 : w1.cell? ⟨b, 2, none⟩ = some (.pointer r.adr) := T1.1.cell 2
      have H1 := Lib.hid (And.intro T1 (And.intro X1 (And.intro nd (And.intro k01 (And.intro hbl hlt)))))
      have hwl : w.heap.size ≤ w1.heap.size := b1.size
      clear T1 X1 nd k01 hbl hlt b1
      go_wp2_with fail
      refine HC.out.mono ?_
      rintro e w2 ⟨s', rfl, T2, hp, ho, hnd, hbs, k2, hne⟩
      have B2 := H1.out.1.1.kp k2 H1.out.2.2.2.2.1.2.1
      have L2 := Tr.kp k2 H1.out.1.2.2.2.nodes H1.out.1.2.2.1 (fun i hi => H1.out.2.2.2.2.1.2.2.2.2 i hi)
      have Y2 := H1.out.1.2.1.kp k2 H1.out.1.2.2.2.nodes
      have hbs' : b ∉ s'.bs := fun hb => by rcases hbs b hb with h | h; exact H1.out.2.2.2.2.1.2.1 h; have := H1.out.1.1.lt; omega
      have hn2 : Nodes w2 [b] := fun i hi => by simp at hi; subst hi; exact ⟨_, _, _, _, B2⟩
      have f2 := B2.frozen 2
      have q2 : w2.cell? ⟨b, 2, none⟩ = some (.pointer r.adr) := B2.cell 2
      have T3 : Tr (w2.setCell ⟨b, 2, none⟩ (.pointer s'.adr)) (.node b y l s' k) := ⟨B2.set_ 2 (.pointer s'.adr), Y2.kp ((Kp.refl [b] w2).setCell (p := ⟨b, 2, none⟩) (.inl (by simp)) _) hn2, L2.set hn2 H1.out.2.2.2.2.1.1, T2.set hn2 hbs'⟩
      have nd3 : (Tre.node b y l s' k).bs.Nodup := by
        have hlt := fun i hi => H1.out.1.2.2.1.lt i hi
        have hd := H1.out.2.2.2.2.1
        simp only [Tre.bs, List.nodup_cons, List.mem_append, List.nodup_append]
        refine ⟨fun h => h.elim hd.1 hbs', hd.2.2.1, hnd, fun i hi j hj e => ?_⟩
        subst e
        rcases hbs i hj with h | h
        · exact hd.2.2.2.2 i hi h
        · have := hlt i hi; omega
      have k3 : Kp (Tre.node b y l r k).bs w (w2.setCell ⟨b, 2, none⟩ (.pointer s'.adr)) := (H1.out.2.2.2.1.trans (k2.sub (fun i hi => by simp [Tre.bs, hi]))).setCell (p := ⟨b, 2, none⟩) (.inl (by simp [Tre.bs])) _
      have hw := walkUp_any b y l s' k _ T3 nd3
      have HW := Lib.hid hw
      have HF := Lib.hid (And.intro hp (And.intro ho (And.intro hbs (And.intro k3 nd3))))
      clear hw T3 nd3 k3 hp ho hnd hbs k2 hne T2 L2 Y2 hbs' hn2 HC
      go_wp2_with fail
      refine HW.out.mono ?_
      rintro e w4 ⟨s'', rfl, T4, hi4, hp4, k4⟩
      unfold Tre.ptr
      go_wp2_with fail
      go_ret
      refine ⟨s'', rfl, T4, ?_, fun hO => ?_, hp4.nodup_iff.2 HF.out.2.2.2.2, fun i hi => ?_, ?_, ?_⟩
      · rw [hi4]
        simp only [Tre.ino]
        exact (List.Perm.append_left _ ((HF.out.1.cons y).trans (List.Perm.swap _ _ _))).trans List.perm_middle
      · rw [hi4]
        simp only [Tre.ino] at hO ⊢
        exact ord_right hO (HF.out.2.1 (ord_sub hO).2) (fun a ha => by simpa using HF.out.1.mem_iff.1 ha) H1.out.2.2.2.2.2
      · have := hp4.mem_iff.1 hi
        simp only [Tre.bs, List.mem_cons, List.mem_append] at this ⊢
        rcases this with h | h | h
        · exact .inl (.inl h)
        · exact .inl (.inr (.inl h))
        · rcases HF.out.2.2.1 i h with h | h
          · exact .inl (.inr (.inr h))
          · exact .inr (by omega)
      · exact HF.out.2.2.2.1.step k4 (fun i hi => by
          simp only [Tre.bs, List.mem_cons, List.mem_append] at hi ⊢
          rcases hi with h | h | h
          · exact .inl (.inl h)
          · exact .inl (.inr (.inl h))
          · rcases HF.out.2.2.1 i h with h | h
            · exact .inl (.inr (.inr h))
            · exact .inr (by omega))
      · rintro rfl
        simp [Tre.bs] at hp4
    · have HC := Lib.hid (HI.out.1 w1 T1.2.2.1 hbl.2.2.1 X1)
      have q1 : w1.cell? ⟨b, 1, none⟩ = some (.pointer l.adr) := T1.1.cell 1
      have H1 := Lib.hid (And.intro T1 (And.intro X1 (And.intro nd (And.intro k01 (And.intro hbl hlt)))))
      have hwl : w.heap.size ≤ w1.heap.size := b1.size
      clear T1 X1 nd k01 hbl hlt b1
      go_wp2_with fail
      refine HC.out.mono ?_
      rintro e w2 ⟨s', rfl, T2, hp, ho, hnd, hbs, k2, hne⟩
      have B2 := H1.out.1.1.kp k2 H1.out.2.2.2.2.1.1
      have L2 := Tr.kp k2 H1.out.1.2.2.1.nodes H1.out.1.2.2.2 (fun i hi hm => H1.out.2.2.2.2.1.2.2.2.2 i hm hi)
      have Y2 := H1.out.1.2.1.kp k2 H1.out.1.2.2.1.nodes
      have hbs' : b ∉ s'.bs := fun hb => by rcases hbs b hb with h | h; exact H1.out.2.2.2.2.1.1 h; have := H1.out.1.1.lt; omega
      have hn2 : Nodes w2 [b] := fun i hi => by simp at hi; subst hi; exact ⟨_, _, _, _, B2⟩
      have f2 := B2.frozen 1
      have q2 : w2.cell? ⟨b, 1, none⟩ = some (.pointer l.adr) := B2.cell 1
      have T3 : Tr (w2.setCell ⟨b, 1, none⟩ (.pointer s'.adr)) (.node b y s' r k) := ⟨B2.set_ 1 (.pointer s'.adr), Y2.kp ((Kp.refl [b] w2).setCell (p := ⟨b, 1, none⟩) (.inl (by simp)) _) hn2, T2.set hn2 hbs', L2.set hn2 H1.out.2.2.2.2.1.2.1⟩
      have nd3 : (Tre.node b y s' r k).bs.Nodup := by
        have hlt := fun i hi => H1.out.1.2.2.2.lt i hi
        have hd := H1.out.2.2.2.2.1
        simp only [Tre.bs, List.nodup_cons, List.mem_append, List.nodup_append]
        refine ⟨fun h => h.elim hbs' hd.2.1, hnd, hd.2.2.2.1, fun i hi j hj e => ?_⟩
        subst e
        rcases hbs i hi with h | h
        · exact hd.2.2.2.2 i h hj
        · have := hlt i hj; omega
      have k3 : Kp (Tre.node b y l r k).bs w (w2.setCell ⟨b, 1, none⟩ (.pointer s'.adr)) := (H1.out.2.2.2.1.trans (k2.sub (fun i hi => by simp [Tre.bs, hi]))).setCell (p := ⟨b, 1, none⟩) (.inl (by simp [Tre.bs])) _
      have hw := walkUp_any b y s' r k _ T3 nd3
      have HW := Lib.hid hw
      have HF := Lib.hid (And.intro hp (And.intro ho (And.intro hbs (And.intro k3 nd3))))
      clear hw T3 nd3 k3 hp ho hnd hbs k2 hne T2 L2 Y2 hbs' hn2 HC
      go_wp2_with fail
      refine HW.out.mono ?_
      rintro e w4 ⟨s'', rfl, T4, hi4, hp4, k4⟩
      unfold Tre.ptr
      go_wp2_with fail
      go_ret
      refine ⟨s'', rfl, T4, ?_, fun hO => ?_, hp4.nodup_iff.2 HF.out.2.2.2.2, fun i hi => ?_, ?_, ?_⟩
      · rw [hi4]
        simp only [Tre.ino]
        exact (List.Perm.append_right _ HF.out.1)
      · rw [hi4]
        simp only [Tre.ino] at hO ⊢
        exact ord_left hO (HF.out.2.1 (ord_sub hO).1) (fun a ha => by simpa using HF.out.1.mem_iff.1 ha) H1.out.2.2.2.2.2
      · have := hp4.mem_iff.1 hi
        simp only [Tre.bs, List.mem_cons, List.mem_append] at this ⊢
        rcases this with h | h | h
        · exact .inl (.inl h)
        · rcases HF.out.2.2.1 i h with h | h
          · exact .inl (.inr (.inl h))
          · exact .inr (by omega)
        · exact .inl (.inr (.inr h))
      · exact HF.out.2.2.2.1.step k4 (fun i hi => by
          simp only [Tre.bs, List.mem_cons, List.mem_append] at hi ⊢
          rcases hi with h | h | h
          · exact .inl (.inl h)
          · rcases HF.out.2.2.1 i h with h | h
            · exact .inl (.inr (.inl h))
            · exact .inr (by omega)
          · exact .inl (.inr (.inr h)))
      · rintro rfl
        simp [Tre.bs] at hp4
end Go.Proofs.YtcljffldbnoljaaGreatDoor
