/-
  What cid.CidFromReader calls, over bytes that begin with no identifier. Conditions: as each contract says.
-/
import Derived.Test.YtgkhofnedhlgdaaDoorCdB
import Derived.Test.YtgkhofnedhlgdaaDoorRs
namespace Go.Proofs.YtgkhofnedhlgdaaDoor
open Go.RowKit

theorem Sr.kb {w w' : World} {g B : Nat} {L : List Nat} (h : Sr w g) (k : Kb B L w w') (hB : g < B) (hg : g ∉ L) : Sr w' g := by
  obtain ⟨s, h⟩ := h
  exact ⟨s, (k.cell (p := ⟨g, 0, none⟩) hB hg).trans h⟩

/-- What reading a number from the buffered reader comes to. -/
def BuPost (res : UvR) (b r d g o n c i B : Nat) (L : List Nat) (l : List UInt8) (aE aU aO aM : Addr) (W : World) (e : Ending) (w' : World) : Prop :=
  Kb B L W w' ∧ ∃ j, j ≤ n ∧ Bbr b r d g o n c l j w' ∧ match res with
    | .ok x s => j = i + s ∧ e = .returned (.tuple #[.int .u64 x, .nilIface])
    | .ends => e = .returned (.tuple #[.int .u64 0, .iface 128 (.pointer (some (if i = n then aE else aU)))])
    | .long => e = .returned (.tuple #[.int .u64 0, .iface 128 (.pointer (some aO))])
    | .needless => e = .returned (.tuple #[.int .u64 0, .iface 128 (.pointer (some aM))])

theorem bbUvarint_any (b r d g o n c i B : Nat) (L : List Nat) (l : List UInt8) (aE aU aO aM : Addr) (W : World) (h : Bbr b r d g o n c l i W) (hn : n = l.length) (hi : i ≤ n) (hi54 : i ≤ 54) (hl : l.length ≤ 2147483647)
    (hD : r ≠ b ∧ r ≠ d ∧ b ≠ d ∧ g ≠ r ∧ g ≠ b ∧ g ≠ d) (hr : r ∈ L ∨ B ≤ r) (hb : b ∈ L ∨ B ≤ b) (hd : d ∈ L ∨ B ≤ d) (hB : B ≤ W.heap.size)
    (eE : Ee W 0 aE) (eU : Ee W 1 aU) (eO : Ee W 2 aO) (eM : Ee W 3 aM)
    (rE : 0 < B ∧ 0 ∉ L) (rU : 1 < B ∧ 1 ∉ L) (rO : 2 < B ∧ 2 ∉ L) (rM : 3 < B ∧ 3 ∉ L) (hrE : r ≠ 0) :
    Calls Tryd.prog 26 #[.iface 100 (.pointer (some ⟨b, 0, none⟩))] W (BuPost (uvRd (l.drop i) 0 0) b r d g o n c i B L l aE aU aO aM W) := by
  refine (readUvarint_gen b B L (fun j W => Bbr b r d g o n c l j W ∧ B ≤ W.heap.size) i n l aE aU aO aM W ?_ ?_ (fun j W k h => ⟨h.1.drewN k, h.2⟩) ⟨h, hB⟩ hn hi (by omega) eE eU eO eM rE rU rO rM).mono ?_
  · intro j hj W1 hij hji ⟨h1, hB1⟩
    refine (bbReadByte_any b r d g o n c j B L l W1 h1 hn hl hj (by omega) hD hr hb hd hB1).mono ?_
    rintro e w' ⟨he, hb', hk⟩
    exact ⟨he, ⟨hb', Nat.le_trans hB1 hk.size⟩, hk⟩
  · intro W1 ⟨h1, hB1⟩ hE1
    rw [← hn] at h1 ⊢
    refine (bbReadByte_end b r d g o n c B L l aE W1 h1 (by omega) hE1 hD hr hB1 hrE).mono ?_
    rintro e w' ⟨he, hb', hk⟩
    exact ⟨he, ⟨hb', Nat.le_trans hB1 hk.size⟩, hk⟩
  · rintro e w' ⟨hk, j, hj, ⟨hb', _⟩, he⟩
    exact ⟨hk, j, hj, hb', he⟩

/-- What CidFromReader comes to where the bytes begin with no identifier. -/
def CfeT (l : List UInt8) (aE : Addr) : Value → Prop := fun v => if l = [] then v = .iface 128 (.pointer (some aE)) else ∃ u, v = .iface 95 u

theorem uvRd_nil : uvRd [] 0 0 = .ends := rfl
set_option maxRecDepth 100000 in
set_option maxHeartbeats 2000000 in
theorem mhCast_bad (g o n c : Nat) (m : List UInt8) (w : World) (hn : n = m.length) (hl : m.length ≤ 2147483647) (hlc : m.length ≤ c) (hc : Bs w g o m) (hg : g < w.heap.size) (hr : ∀ code d, mhRd m ≠ some (code, d, m.length))
    (e0 : Er w 2) (e1 : Er w 3) (e2 : Er w 5) (e3 : Er w 7) :
    Calls Tryd.prog 55 #[.slice (some ⟨g, o, none⟩) n c] w fun e w' => (∃ v t p, e = .returned (.tuple #[v, .iface t p])) ∧ Below w.heap.size w w' := by
  have hdec := mhDecode_any g o n c m w hn hl hlc hc hg e0 e1 e2 e3
  have hdec' : Calls Tryd.prog 58 #[.slice (some ⟨g, o, none⟩) n c] w fun e w' => (∃ t p, e = .returned (.tuple #[.pointer none, .iface t p])) ∧ Below w.heap.size w w' := by
    refine hdec.mono ?_
    rintro e w1 ⟨b1, h⟩
    cases hm : mhRd m with
    | none => rw [hm] at h; exact ⟨h, b1⟩
    | some y =>
      obtain ⟨code, d, q⟩ := y
      rw [hm] at h
      exact ⟨h.2 (fun hq => hr code d (by rw [hm, hq])), b1⟩
  have HD := Lib.hid hdec'
  clear hdec hdec' hn hr hc
  go_enter Tryd.func55, Tryd.ntmps55
  go_wp2_with fail
  refine HD.out.mono ?_
  rintro e w1 ⟨⟨t, p, rfl⟩, b1⟩
  go_wp2_with fail
  go_ret2
  exact ⟨⟨_, _, _, rfl⟩, by first | exact b1 | exact Old.alloc b1 _⟩

theorem v18_bad {l : List UInt8} (hr : cdRd l = none) (h1 : uvRd l 0 0 = .ok 18 1) (h34 : 34 ≤ l.length) : ∀ code d, mhRd (l.take 34) ≠ some (code, d, 34) := by
  intro code d hm
  obtain ⟨e1, e2⟩ := mhRd_canon hm
  rw [List.take_of_length_le (by rw [List.length_take]; omega)] at e1
  obtain ⟨c1, c2⟩ := uvRd_canon0 h1
  rw [uv18] at c1
  match l, c1, h34 with
  | y :: l', c1, h34 =>
    simp at c1
    subst c1
    have hf : (mhWr code d)[0]? = some 18 := by rw [← e1]; rfl
    have hc : code = 18 := by
      obtain ⟨a, q, r1, _⟩ := mhRd_some hm
      have r2 : uvRd ((18 :: l' : List UInt8).take 34) 0 0 = .ok 18 1 := by simp [uvRd]
      rw [r2] at r1
      injection r1 with r1 _
      exact r1.symm
    subst hc
    have hlen := e2
    simp only [mhWr, uv18, List.length_append, List.length_cons, List.length_nil] at hlen
    have hd32 : d.length = 32 := by
      by_cases hsm : d.length < 128
      · rw [Lib.uvarint_small hsm] at hlen
        simp at hlen
        omega
      · have := Lib.uvarint_pos d.length
        omega
    have h2 : (mhWr 18 d)[1]? = some 32 := by rw [mhWr, uv18, hd32, uv32]; rfl
    have hv : isV0 (18 :: l') = true := by
      match l', h34, e1 with
      | z :: l'', h34, e1 =>
        rw [← e1] at h2
        simp at h2
        subst h2
        simp at h34
        simp [isV0]
        omega
    rw [cdRd, if_pos hv, if_neg (by omega)] at hr
    cases hr

end Go.Proofs.YtgkhofnedhlgdaaDoor
