/-
  io.ReadAtLeast and io.ReadFull over three readers, where one reading gives all bytes that are asked for (or, of an io.SectionReader, fewer and the end). Conditions: as each contract says.
-/
import Derived.Test.YtakkdpbpoghfgaaGreatDoorRf
namespace Go.Proofs.YtakkdpbpoghfgaaGreatDoor
open Go.RowKit

theorem ors_m (p : Nat) (W : World) : (method 334 80 (.pointer (some ⟨p, 0, none⟩)) "Read").run Tryz.prog W = .ok (120, .pointer (some ⟨p, 0, none⟩)) W := by kernel_rfl
theorem ors_na (p : Nat) (W : World) : (nilAhead 334 80 (.pointer (some ⟨p, 0, none⟩)) "Read").run Tryz.prog W = .ok (some false) W := by kernel_rfl

set_option maxRecDepth 100000 in
set_option maxHeartbeats 2000000 in
theorem ors_ral (p gd od m cd : Nat) (w : World) (Post : World → Prop) (hm : 0 < m) (hm2 : m ≤ 2147483647) (hcd : m ≤ cd)
    (HR : Calls Tryz.prog 120 #[.pointer (some ⟨p, 0, none⟩), .slice (some ⟨gd, od, none⟩) m cd] w.drew fun e w' => e = .returned (.tuple #[.int .i64 m, .nilIface]) ∧ Post w') :
    Calls Tryz.prog 55 #[.iface 80 (.pointer (some ⟨p, 0, none⟩)), .slice (some ⟨gd, od, none⟩) m cd, .int .i64 m] w fun e w' => e = .returned (.tuple #[.int .i64 m, .nilIface]) ∧ Post w' := by
  have hmr := ors_m p
  have hna := ors_na p
  have H := Lib.hid HR
  clear HR
  go_enter Tryz.func55, Tryz.ntmps55
  go_wp2_with fail
  go_loopw [6, 7] (fun x e wr => e = .nilIface ∧ ((x = .int .i64 0 ∧ wr = w) ∨ (x = .int .i64 m ∧ Post wr))) (fun x _ _ => m - (intOf x).toNat)
  case atStart => exact ⟨rfl, .inl ⟨rfl, rfl⟩⟩
  case round =>
    obtain ⟨rfl, ⟨rfl, rfl⟩ | ⟨rfl, hP⟩⟩ := hrel
    · go_wp2_with fail
      go_region_with (go_at_call 120; refine H.out.mono ?_; rintro _ w1 ⟨rfl, hP1⟩)
      all_goals go_wp2_with fail
      all_goals exact ⟨⟨rfl, .inr ⟨rfl, hP1⟩⟩, by simp [intOf]; omega⟩
    · have HP := Lib.hid hP
      clear hP
      go_wp2_with fail
      go_ret2
      exact ⟨rfl, HP.out⟩

set_option maxRecDepth 100000 in
theorem ors_full (p gd od m cd : Nat) (w : World) (Post : World → Prop) (hm : 0 < m) (hm2 : m ≤ 2147483647) (hcd : m ≤ cd)
    (HR : Calls Tryz.prog 120 #[.pointer (some ⟨p, 0, none⟩), .slice (some ⟨gd, od, none⟩) m cd] w.drew fun e w' => e = .returned (.tuple #[.int .i64 m, .nilIface]) ∧ Post w') :
    Calls Tryz.prog 49 #[.iface 80 (.pointer (some ⟨p, 0, none⟩)), .slice (some ⟨gd, od, none⟩) m cd] w fun e w' => e = .returned (.tuple #[.int .i64 m, .nilIface]) ∧ Post w' := by
  have H := Lib.hid (ors_ral p gd od m cd w Post hm hm2 hcd HR)
  clear HR
  go_enter Tryz.func49, Tryz.ntmps49
  go_wp2_with fail
  refine H.out.mono ?_
  rintro e w1 ⟨rfl, hP⟩
  have HP := Lib.hid hP
  clear hP
  go_wp2_with fail
  go_ret2
  exact ⟨rfl, HP.out⟩

theorem sec_m (p : Nat) (W : World) : (method 334 95 (.pointer (some ⟨p, 0, none⟩)) "Read").run Tryz.prog W = .ok (126, .pointer (some ⟨p, 0, none⟩)) W := by kernel_rfl
theorem sec_na (p : Nat) (W : World) : (nilAhead 334 95 (.pointer (some ⟨p, 0, none⟩)) "Read").run Tryz.prog W = .ok (some false) W := by kernel_rfl

set_option maxRecDepth 100000 in
set_option maxHeartbeats 2000000 in
theorem sec_ral (p gd od m cd : Nat) (w : World) (Post : World → Prop) (hm : 0 < m) (hm2 : m ≤ 2147483647) (hcd : m ≤ cd)
    (HR : Calls Tryz.prog 126 #[.pointer (some ⟨p, 0, none⟩), .slice (some ⟨gd, od, none⟩) m cd] w.drew fun e w' => e = .returned (.tuple #[.int .i64 m, .nilIface]) ∧ Post w') :
    Calls Tryz.prog 55 #[.iface 95 (.pointer (some ⟨p, 0, none⟩)), .slice (some ⟨gd, od, none⟩) m cd, .int .i64 m] w fun e w' => e = .returned (.tuple #[.int .i64 m, .nilIface]) ∧ Post w' := by
  have hmr := sec_m p
  have hna := sec_na p
  have H := Lib.hid HR
  clear HR
  go_enter Tryz.func55, Tryz.ntmps55
  go_wp2_with fail
  go_loopw [6, 7] (fun x e wr => e = .nilIface ∧ ((x = .int .i64 0 ∧ wr = w) ∨ (x = .int .i64 m ∧ Post wr))) (fun x _ _ => m - (intOf x).toNat)
  case atStart => exact ⟨rfl, .inl ⟨rfl, rfl⟩⟩
  case round =>
    obtain ⟨rfl, ⟨rfl, rfl⟩ | ⟨rfl, hP⟩⟩ := hrel
    · go_wp2_with fail
      go_region_with (go_at_call 126; refine H.out.mono ?_; rintro _ w1 ⟨rfl, hP1⟩)
      all_goals go_wp2_with fail
      all_goals exact ⟨⟨rfl, .inr ⟨rfl, hP1⟩⟩, by simp [intOf]; omega⟩
    · have HP := Lib.hid hP
      clear hP
      go_wp2_with fail
      go_ret2
      exact ⟨rfl, HP.out⟩

set_option maxRecDepth 100000 in
theorem sec_full (p gd od m cd : Nat) (w : World) (Post : World → Prop) (hm : 0 < m) (hm2 : m ≤ 2147483647) (hcd : m ≤ cd)
    (HR : Calls Tryz.prog 126 #[.pointer (some ⟨p, 0, none⟩), .slice (some ⟨gd, od, none⟩) m cd] w.drew fun e w' => e = .returned (.tuple #[.int .i64 m, .nilIface]) ∧ Post w') :
    Calls Tryz.prog 49 #[.iface 95 (.pointer (some ⟨p, 0, none⟩)), .slice (some ⟨gd, od, none⟩) m cd] w fun e w' => e = .returned (.tuple #[.int .i64 m, .nilIface]) ∧ Post w' := by
  have H := Lib.hid (sec_ral p gd od m cd w Post hm hm2 hcd HR)
  clear HR
  go_enter Tryz.func49, Tryz.ntmps49
  go_wp2_with fail
  refine H.out.mono ?_
  rintro e w1 ⟨rfl, hP⟩
  have HP := Lib.hid hP
  clear hP
  go_wp2_with fail
  go_ret2
  exact ⟨rfl, HP.out⟩

theorem rts_m (p : Nat) (W : World) : (method 334 149 (.pointer (some ⟨p, 0, none⟩)) "Read").run Tryz.prog W = .ok (148, .pointer (some ⟨p, 0, none⟩)) W := by kernel_rfl
theorem rts_na (p : Nat) (W : World) : (nilAhead 334 149 (.pointer (some ⟨p, 0, none⟩)) "Read").run Tryz.prog W = .ok (some false) W := by kernel_rfl

set_option maxRecDepth 100000 in
set_option maxHeartbeats 2000000 in
theorem rts_ral (p gd od m cd : Nat) (w : World) (Post : World → Prop) (hm : 0 < m) (hm2 : m ≤ 2147483647) (hcd : m ≤ cd)
    (HR : Calls Tryz.prog 148 #[.pointer (some ⟨p, 0, none⟩), .slice (some ⟨gd, od, none⟩) m cd] w.drew fun e w' => e = .returned (.tuple #[.int .i64 m, .nilIface]) ∧ Post w') :
    Calls Tryz.prog 55 #[.iface 149 (.pointer (some ⟨p, 0, none⟩)), .slice (some ⟨gd, od, none⟩) m cd, .int .i64 m] w fun e w' => e = .returned (.tuple #[.int .i64 m, .nilIface]) ∧ Post w' := by
  have hmr := rts_m p
  have hna := rts_na p
  have H := Lib.hid HR
  clear HR
  go_enter Tryz.func55, Tryz.ntmps55
  go_wp2_with fail
  go_loopw [6, 7] (fun x e wr => e = .nilIface ∧ ((x = .int .i64 0 ∧ wr = w) ∨ (x = .int .i64 m ∧ Post wr))) (fun x _ _ => m - (intOf x).toNat)
  case atStart => exact ⟨rfl, .inl ⟨rfl, rfl⟩⟩
  case round =>
    obtain ⟨rfl, ⟨rfl, rfl⟩ | ⟨rfl, hP⟩⟩ := hrel
    · go_wp2_with fail
      go_region_with (go_at_call 148; refine H.out.mono ?_; rintro _ w1 ⟨rfl, hP1⟩)
      all_goals go_wp2_with fail
      all_goals exact ⟨⟨rfl, .inr ⟨rfl, hP1⟩⟩, by simp [intOf]; omega⟩
    · have HP := Lib.hid hP
      clear hP
      go_wp2_with fail
      go_ret2
      exact ⟨rfl, HP.out⟩

set_option maxRecDepth 100000 in
theorem rts_full (p gd od m cd : Nat) (w : World) (Post : World → Prop) (hm : 0 < m) (hm2 : m ≤ 2147483647) (hcd : m ≤ cd)
    (HR : Calls Tryz.prog 148 #[.pointer (some ⟨p, 0, none⟩), .slice (some ⟨gd, od, none⟩) m cd] w.drew fun e w' => e = .returned (.tuple #[.int .i64 m, .nilIface]) ∧ Post w') :
    Calls Tryz.prog 49 #[.iface 149 (.pointer (some ⟨p, 0, none⟩)), .slice (some ⟨gd, od, none⟩) m cd] w fun e w' => e = .returned (.tuple #[.int .i64 m, .nilIface]) ∧ Post w' := by
  have H := Lib.hid (rts_ral p gd od m cd w Post hm hm2 hcd HR)
  clear HR
  go_enter Tryz.func49, Tryz.ntmps49
  go_wp2_with fail
  refine H.out.mono ?_
  rintro e w1 ⟨rfl, hP⟩
  have HP := Lib.hid hP
  clear hP
  go_wp2_with fail
  go_ret2
  exact ⟨rfl, HP.out⟩

set_option maxRecDepth 100000 in
set_option maxHeartbeats 2000000 in
theorem sec_ralS (p gd od m cd k : Nat) (aE aU : Addr) (w : World) (Post : World → Prop) (hk : k < m) (hm2 : m ≤ 2147483647) (hcd : m ≤ cd)
    (HR : Calls Tryz.prog 126 #[.pointer (some ⟨p, 0, none⟩), .slice (some ⟨gd, od, none⟩) m cd] w.drew fun e w' => e = .returned (.tuple #[.int .i64 k, .iface 92 (.pointer (some aE))]) ∧ Post w')
    (HP : ∀ w', Post w' → Ee w' 4 aE ∧ Ee w' 5 aU) :
    Calls Tryz.prog 55 #[.iface 95 (.pointer (some ⟨p, 0, none⟩)), .slice (some ⟨gd, od, none⟩) m cd, .int .i64 m] w fun e w' => (∃ a, e = .returned (.tuple #[.int .i64 k, .iface 92 (.pointer (some a))])) ∧ Post w' := by
  have hmr := sec_m p
  have hna := sec_na p
  have H := Lib.hid (And.intro HR HP)
  clear HR HP
  go_enter Tryz.func55, Tryz.ntmps55
  go_wp2_with fail
  go_loopw [6, 7] (fun x e wr => (e = .nilIface ∧ x = .int .i64 0 ∧ wr = w) ∨ (e = .iface 92 (.pointer (some aE)) ∧ x = .int .i64 k ∧ Post wr)) (fun _ e _ => match e with | .nilIface => 1 | _ => 0)
  case atStart => exact .inl ⟨rfl, rfl, rfl⟩
  case round =>
    obtain ⟨rfl, rfl, rfl⟩ | ⟨rfl, rfl, hP⟩ := hrel
    · have hm0 : 0 < m := by omega
      go_wp2_with fail
      go_region_with (go_at_call 126; refine H.out.1.mono ?_; rintro _ w1 ⟨rfl, hP1⟩)
      all_goals go_wp2_with fail
      all_goals exact ⟨.inr ⟨rfl, rfl, hP1⟩, by simp⟩
    · obtain ⟨hE, hU⟩ := H.out.2 _ hP
      unfold Ee at hE hU
      have heq := fun W => eql_same aE W
      have HP := Lib.hid hP
      clear hP
      by_cases h0 : k = 0
      · subst h0
        go_wp2_with fail
        go_ret2
        exact ⟨⟨_, rfl⟩, HP.out⟩
      · have hk0 : 0 < k := by omega
        have HN := Lib.hid h0
        clear h0
        go_wp2_with fail
        go_ret2
        exact ⟨⟨_, rfl⟩, HP.out⟩

set_option maxRecDepth 100000 in
theorem sec_fullS (p gd od m cd k : Nat) (aE aU : Addr) (w : World) (Post : World → Prop) (hk : k < m) (hm2 : m ≤ 2147483647) (hcd : m ≤ cd)
    (HR : Calls Tryz.prog 126 #[.pointer (some ⟨p, 0, none⟩), .slice (some ⟨gd, od, none⟩) m cd] w.drew fun e w' => e = .returned (.tuple #[.int .i64 k, .iface 92 (.pointer (some aE))]) ∧ Post w')
    (HP : ∀ w', Post w' → Ee w' 4 aE ∧ Ee w' 5 aU) :
    Calls Tryz.prog 49 #[.iface 95 (.pointer (some ⟨p, 0, none⟩)), .slice (some ⟨gd, od, none⟩) m cd] w fun e w' => (∃ a, e = .returned (.tuple #[.int .i64 k, .iface 92 (.pointer (some a))])) ∧ Post w' := by
  have H := Lib.hid (sec_ralS p gd od m cd k aE aU w Post hk hm2 hcd HR HP)
  clear HR HP
  go_enter Tryz.func49, Tryz.ntmps49
  go_wp2_with fail
  refine H.out.mono ?_
  rintro e w1 ⟨⟨a, rfl⟩, hP⟩
  have HPP := Lib.hid hP
  clear hP
  go_wp2_with fail
  go_ret2
  exact ⟨⟨_, rfl⟩, HPP.out⟩
end Go.Proofs.YtakkdpbpoghfgaaGreatDoor
