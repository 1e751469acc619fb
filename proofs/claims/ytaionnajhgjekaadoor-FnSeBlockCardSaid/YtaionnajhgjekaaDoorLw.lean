/-
  The walk of util.LdWrite into a buffer. Conditions: as the contract says.
-/
import Derived.Test.YtaionnajhgjekaaDoorBo
import Derived.Test.YtaionnajhgjekaaDoorBv
import Derived.Test.YtaionnajhgjekaaDoorUvW
import Derived.Deep.RegionWith
import Derived.Deep.RegionHeld3
namespace Go.Proofs.YtaionnajhgjekaaDoor
open Go.RowKit

/-- The values of a slice of slices of bytes: its cells lie in block g. -/
def Svs (w : World) (lo : Nat) (A : Option Addr) (n : Nat) (S : List (List UInt8)) : Prop :=
  n = 0 ∨ ∃ g, A = some ⟨g, 0, none⟩ ∧ lo ≤ g ∧ ∀ (i : Nat) (h : i < S.length), ∃ u, w.cell? ⟨g, i, none⟩ = some u ∧ Sv w lo u S[i]
/-- S is one of the bytes' lists: the length of what has been summed. -/
theorem flat_len2 (S : List (List UInt8)) (h : ∀ s ∈ S, s.length ≤ 1000000) : S.flatten.length ≤ S.length * 1000000 := by
  induction S with
  | nil => simp
  | cons s S ih =>
    have h0 := h s (by simp)
    have := ih (fun t ht => h t (by simp [ht]))
    rw [List.flatten_cons, List.length_append, List.length_cons]
    omega

set_option maxRecDepth 100000 in
set_option maxHeartbeats 4000000 in
theorem ldWriteU_any (b lo n cap : Nat) (A : Option Addr) (S : List (List UInt8)) (w : World) (hL : S.length = n) (hn : n ≤ 1000) (hS : Svs w lo A n S) (hl : ∀ s ∈ S, s.length ≤ 1000000) (hbl : b < lo) (hlw : lo ≤ w.heap.size) (hb : BuS w b none []) (ht : S.flatten.length ≤ 900000000) :
    Calls Tryd.prog 20 #[.iface 56 (.pointer (some ⟨b, 0, none⟩)), .slice A n cap] w fun e w' => e = .returned .nilIface ∧ (∃ row, BuS w' b row (Lib.uvarint S.flatten.length ++ S.flatten)) ∧ Kp [b] w w' := by
  have HF := Lib.hid (And.intro hL (And.intro hS (And.intro hl (And.intro hbl (And.intro hlw (And.intro hb ht))))))
  clear hL hS hl hbl hlw hb ht
  obtain ⟨i0, hi0, hz0, hz1, hz2⟩ := info_parts info5
  have hmk : ∀ W : World, (Instr.makeSlice 48 (.int .i64 8) (.int .i64 8)).run Tryd.prog W = .ok (.slice (some ⟨W.heap.size, 0, none⟩) 8 8) (W.alloc (.cells (List.replicate 8 (.int .u8 0)).toArray 5)) := by
    intro W
    have hr := run_make (P := Tryd.prog) W 48 5 i0 (.int .u8 0) Tryd.underlying48 hi0 hz0 .i64 .i64 8 8 (by omega) (by omega) (by rw [hz2]; omega) (by omega)
    have ht0 : madeCells #[Value.int .u8 0] 8 = (List.replicate 8 (Value.int .u8 0)).toArray := by
      rw [← toList_madeCells_one (.int .u8 0) 8]
    rw [← ht0]
    simpa [hz1, Value.cells] using hr
  obtain ⟨zs, hzs⟩ : ∃ zs, List.replicate 8 (Value.int .u8 0) = zs := ⟨_, rfl⟩
  rw [hzs] at hmk
  have hzl : zs.length = 8 := by rw [← hzs]; rfl
  have HZ := Lib.hid hzl
  clear hzs hzl hi0 hz0 hz1 hz2
  have hmw : ∀ W, (method 283 56 (.pointer (some ⟨b, 0, none⟩)) "Write").run Tryd.prog W = .ok (97, .pointer (some ⟨b, 0, none⟩)) W := fun _ => by kernel_rfl
  have hna : ∀ W, (nilAhead 283 56 (.pointer (some ⟨b, 0, none⟩)) "Write").run Tryd.prog W = .ok (some false) W := fun _ => by kernel_rfl
  go_enter Tryd.func20, Tryd.ntmps20
  go_wp2_with fail
  go_loop [5, 16] (fun s i => ∃ k : Nat, k ≤ n ∧ i = .int .i64 k ∧ s = .int .u64 (S.take k).flatten.length) (fun _ i => n - (intOf i).toNat)
  case atStart => exact ⟨0, Nat.zero_le _, rfl, rfl⟩
  case round =>
    obtain ⟨k, hk, rfl, rfl⟩ := hrel
    by_cases hkn : k < n
    · obtain h0 | ⟨g, rfl, hlg, hg⟩ := HF.out.2.1
      · omega
      have hkL : k < S.length := by rw [HF.out.1]; exact hkn
      obtain ⟨u, c0, gk, ck, rfl, _, _, _, _⟩ := hg k hkL
      have hft := flat_take S k hkL
      have hfl := flat_len2 (S.take k) (fun t ht => HF.out.2.2.1 t (List.mem_of_mem_take ht))
      have hxl := HF.out.2.2.1 S[k] (List.getElem_mem hkL)
      rw [List.length_take] at hfl
      obtain ⟨x, hx⟩ : ∃ x, S[k] = x := ⟨_, rfl⟩
      rw [hx] at c0 hft hxl
      obtain ⟨F, hF⟩ : ∃ F, (S.take k).flatten = F := ⟨_, rfl⟩
      rw [hF] at hfl hft
      rw [hF]
      have hF5 : F.length ≤ 1000000000 := by omega
      have hkI : (k : Int) < (n : Int) := by omega
      have HX := Lib.hid hft
      clear hg hx hft hF hfl
      go_wp2_with fail
      all_goals go_round
      case rel => exact ⟨k + 1, hkn, by go_num, by rw [HX.out, List.length_append]; go_num⟩
      case measure => simp [intOf]; omega
    · have hkn' : n = k := by omega
      subst hkn'
      clear hk hkn
      rw [List.take_of_length_le (by rw [HF.out.1]; exact Nat.le_refl _)]
      obtain ⟨T, hT⟩ : ∃ T, S.flatten.length = T := ⟨_, rfl⟩
      have hTl := HF.out.2.2.2.2.2.2
      rw [hT] at hTl
      rw [hT]
      have hul := Lib.uvarint_length 4 T (Nat.lt_of_le_of_lt hTl (by decide))
      have hup := Lib.uvarint_pos T
      obtain ⟨U, hU⟩ : ∃ U, Lib.uvarint T = U := ⟨_, rfl⟩
      rw [hU] at hul hup
      have HT := Lib.hid (And.intro hT hU)
      clear hT hU
      have b1 := Old.alloc (Below.refl w.heap.size w) (.cells zs.toArray 5)
      have Z1 := Blk.new w 5 zs.toArray
      go_wp2_with fail
      generalize w.alloc (.cells zs.toArray 5) = w1 at *
      have hpv := putUvarint_any w.heap.size 0 8 8 T (by omega) w1 (by rw [HT.out.2]; omega) (by
        intro j hj
        rw [HT.out.2] at hj
        rw [Nat.zero_add]
        exact blk_some Z1 (by rw [HZ.out]; omega))
      rw [HT.out.2] at hpv
      have HP := Lib.hid hpv
      clear hpv
      refine HP.out.mono ?_
      rintro e w2 ⟨rfl, hw2⟩
      have Z2 := blk_mid (A := []) (zs := zs) Z1 0 rfl (Lib.byteCells U) (by rw [Lib.byteCells_length, HZ.out]; omega)
      rw [List.nil_append, ← hw2] at Z2
      have b2 : Below w.heap.size w w2 := by rw [hw2]; exact below_setCells (Nat.le_refl _) _ _ _ b1
      have U2 : Bs w2 w.heap.size 0 U := by
        intro j hj
        rw [Nat.zero_add, Z2.cell, List.getElem?_toArray, List.getElem?_append_left (by rw [Lib.byteCells_length]; exact hj)]
        simp [Lib.byteCells, hj]
      clear hw2 Z1 b1 HP
      have hul2 : (U.length : Int) ≤ 8 := by omega
      have hul3 : (0 : Int) ≤ (U.length : Int) := by omega
      go_wp2_with fail
      have hBU := HF.out.2.2.2.2.2.1.old b2
      have hbw := HF.out.2.2.2.2.2.1.lt
      have HWr := Lib.hid (fun W (hb : Below w2.heap.size w2 W) => bufWrite_any b none [] U w.heap.size 0 U.length 8 W (hBU.old hb) (U2.old hb) rfl (by omega) (by omega) (by simp) (by simp; omega))
      clear hBU
      refine wp_region_noPanic ?_
      go_region_with (go_at_call 97; refine (HWr.out _ (Below.refl _ _).drew).mono ?_; rintro _ w3 ⟨rfl, ⟨row, hb3, hrow⟩, K3⟩)
      all_goals refine NoPanic.normal ?_
      all_goals
        have K03 : Kp [b] w w3 := ((Kp.of_below b2 [b]).drew).trans (K3.weaken (by simp))
        have hr3 : ∀ g, row = some g → w.heap.size ≤ g := by
          intro g hg
          rcases hrow with h | ⟨g', h, hg'⟩
          · rw [h] at hg; cases hg
          · rw [h] at hg; injection hg with hg; subst hg; exact Nat.le_trans b2.size hg'
        rw [List.nil_append] at hb3
        clear hrow K3 HWr U2 Z2 b2 hna hmk
        go_wp2_with fail
        go_loopw [46] (fun i wr => ∃ (k : Nat) (row : Option Nat), k ≤ n ∧ i = .int .i64 k ∧ Kp [b] w wr ∧ BuS wr b row (U ++ (S.take k).flatten) ∧ ∀ g, row = some g → w.heap.size ≤ g) (fun i _ => n - (intOf i).toNat)
        case atStart => exact ⟨0, row, Nat.zero_le _, rfl, K03, by simpa using hb3, hr3⟩
        case round =>
          clear K03 hb3 hr3
          obtain ⟨k, row, hk, rfl, K, hbu, hr⟩ := hrel
          by_cases hkn : k < n
          · obtain h0 | ⟨g, rfl, hlg, hg⟩ := HF.out.2.1
            · omega
            have hkL : k < S.length := by rw [HF.out.1]; exact hkn
            obtain ⟨u, c0, hsv⟩ := hg k hkL
            have hbl := HF.out.2.2.2.1
            have hlw := HF.out.2.2.2.2.1
            have c1 : wr.cell? ⟨g, k, none⟩ = some u := (K.cell (p := ⟨g, k, none⟩) (World.block_lt_of_cell? w _ c0) (by simp; omega)).trans c0
            have hsv2 := hsv.kp K (by simp; omega)
            obtain ⟨gk, ck, rfl, _, _, _, hgw⟩ := hsv
            obtain ⟨gk', ck', he, hbs, hck, hlgk, _⟩ := hsv2
            simp only [Value.slice.injEq, Option.some.injEq, Addr.mk.injEq, and_true, true_and] at he
            obtain ⟨rfl, rfl⟩ := he
            have hft := flat_take S k hkL
            have hfl := flat_len2 (S.take k) (fun t ht => HF.out.2.2.1 t (List.mem_of_mem_take ht))
            have hxl := HF.out.2.2.1 S[k] (List.getElem_mem hkL)
            rw [List.length_take] at hfl
            have htl := HF.out.2.2.2.2.2.2
            have hfs : (S.take (k + 1)).flatten.length ≤ S.flatten.length := by
              have : S.flatten = (S.take (k + 1)).flatten ++ (S.drop (k + 1)).flatten := by rw [← List.flatten_append, List.take_append_drop]
              rw [this, List.length_append]; omega
            rw [hft, List.length_append] at hfs
            obtain ⟨x, hx⟩ : ∃ x, S[k] = x := ⟨_, rfl⟩
            rw [hx] at c1 hft hxl hbs hck hfs
            obtain ⟨F, hF⟩ : ∃ F, (S.take k).flatten = F := ⟨_, rfl⟩
            rw [hF] at hft hbu hfs
            have hkI : (k : Int) < (n : Int) := by omega
            have hwr := bufWrite_any b row (U ++ F) x gk 0 x.length ck wr hbu hbs rfl hck (by omega) (fun g' hg' => by have := hr g' hg'; omega) (by rw [List.length_append]; omega)
            have HX := Lib.hid (And.intro hft (And.intro hwr (And.intro K hr)))
            clear hg hx hft hF hfl hwr hbs K hr hbu c0 hfs htl
            go_wp2_with fail
            refine HX.out.2.1.mono ?_
            rintro e w5 ⟨rfl, ⟨row', hb5, hrow'⟩, K5⟩
            go_wp2_with fail
            all_goals go_roundw
            case rel =>
              refine ⟨k + 1, row', hkn, by go_num, HX.out.2.2.1.step K5 ?_, by rw [HX.out.1, ← List.append_assoc]; exact hb5, ?_⟩
              · intro i hi
                rcases List.mem_cons.1 hi with rfl | hi
                · exact .inl (by simp)
                · exact .inr (HX.out.2.2.2 i (by simpa using hi))
              · intro g' hg'
                rcases hrow' with h | ⟨g'', h, hg''⟩
                · exact HX.out.2.2.2 g' (h ▸ hg')
                · rw [h] at hg'; injection hg' with hg'; subst hg'; exact Nat.le_trans HX.out.2.2.1.size hg''
            case measure => simp [intOf]; omega
          · have hkn' : k = n := by omega
            subst hkn'
            rw [List.take_of_length_le (by rw [HF.out.1]; exact Nat.le_refl _)] at hbu
            go_wp2_with fail
            go_ret
            exact ⟨rfl, ⟨row, by rw [HT.out.1, HT.out.2]; exact hbu⟩, K⟩
end Go.Proofs.YtaionnajhgjekaaDoor
