/-
  modelHeaderValue (18).
-/
import Derived.Test.Qxb6000545aH
namespace Go.Proofs.Qxb6000545a
open Go.RowKit

set_option maxRecDepth 100000 in
set_option maxHeartbeats 400000 in
/-- the empty value -/
theorem hmodel_empty (s : ByteArray) (w : World) (hs : s.size = 0) :
    Calls Try.prog 18 #[.string s] w fun e w' => e = .returned (.bool true) ∧ w' = w := by
  go_enter Try.func18, Try.ntmps18
  go_wp2
  refine wp_loop_rounds 1 ?_
  rw [rounds_succ]
  go_wp2
  refine wp_loop_rounds 1 ?_
  rw [rounds_succ]
  go_wp2
  refine wp_loop_rounds 1 ?_
  rw [rounds_succ]
  go_wp2
  go_ret
  exact ⟨rfl, rfl⟩

set_option maxRecDepth 100000 in
set_option maxHeartbeats 1000000 in
/-- a space or a tab ahead -/
theorem hmodel_first (s : ByteArray) (w : World) (h1 : 1 ≤ s.size) (hs : s.size ≤ 1048576) (hw : Ws ((oct s).getD 0 0)) :
    Calls Try.prog 18 #[.string s] w fun e w' => e = .returned (.bool false) ∧ w' = w := by
  have HW := hid hw
  clear hw
  go_enter Try.func18, Try.ntmps18
  go_wp2
  go_loop [3] (fun i => ∃ k : Nat, k ≤ s.size ∧ i = .int .i64 (k : Int)) (fun i => s.size - (intOf i).toNat)
  case atStart => exact ⟨0, Nat.zero_le _, rfl⟩
  case round =>
    obtain ⟨k, hk, rfl⟩ := hrel
    by_cases hgo : k < s.size ∧ Ws ((oct s).getD k 0)
    · obtain ⟨hlt, hwk⟩ := hgo
      have HWK : Hid (Ws (((s[k]'hlt).toNat : Int))) := by rw [oct_at s k hlt]; exact hwk
      clear hwk
      go_wp2_with (go_at_call 31; refine (ws_yes _ _ HWK.out).mono ?_; rintro e w' ⟨rfl, rfl⟩)
      go_round
      case rel => exact ⟨k + 1, by omega, by go_num⟩
      case measure => simp [intOf]; omega
    · have hk1 : 1 ≤ k := by
        by_cases h0 : k = 0
        · subst h0; exact absurd ⟨by omega, HW.out⟩ hgo
        · omega
      have hkz : ((k : Int) != 0) = true := by simp; omega
      have HGO := hid hgo
      clear hgo
      by_cases hlt : k < s.size
      · have HNW : Hid (¬ Ws (((s[k]'hlt).toNat : Int))) := by rw [oct_at s k hlt]; exact fun e => HGO.out ⟨hlt, e⟩
        go_wp2_with (go_at_call 31; refine (ws_no _ _ HNW.out).mono ?_; rintro e w' ⟨rfl, rfl⟩)
        go_loop [4] (fun i => ∃ j : Nat, k ≤ j ∧ j ≤ s.size ∧ i = .int .i64 (j : Int)) (fun i => (intOf i).toNat)
        case atStart => exact ⟨s.size, by omega, Nat.le_refl _, rfl⟩
        case round =>
          obtain ⟨j, hkj, hjn, rfl⟩ := hrel
          by_cases hkj' : k < j
          · have hj1 : j - 1 < s.size := by omega
            by_cases hwj : Ws (((s[j - 1]'hj1).toNat : Int))
            · have HWJ := hid hwj
              clear hwj
              go_wp2_with (go_at_call 31; refine (ws_yes _ _ HWJ.out).mono ?_; rintro e w' ⟨rfl, rfl⟩)
              go_round
              case rel => exact ⟨j - 1, by omega, by omega, by go_num⟩
              case measure => simp [intOf]; omega
            · have HWJ := hid hwj
              clear hwj
              go_wp2_with (go_at_call 31; refine (ws_no _ _ HWJ.out).mono ?_; rintro e w' ⟨rfl, rfl⟩)
              go_ret
              exact ⟨rfl, rfl⟩
          · go_wp2
            go_ret
            exact ⟨rfl, rfl⟩
      · go_wp2
        refine wp_loop_rounds 1 ?_
        rw [rounds_succ]
        go_wp2
        go_ret
        exact ⟨rfl, rfl⟩

set_option maxRecDepth 100000 in
set_option maxHeartbeats 1000000 in
/-- a space or a tab behind -/
theorem hmodel_last (s : ByteArray) (w : World) (h1 : 1 ≤ s.size) (hs : s.size ≤ 1048576) (hw : ¬ Ws ((oct s).getD 0 0)) (hl : Ws ((oct s).getD (s.size - 1) 0)) :
    Calls Try.prog 18 #[.string s] w fun e w' => e = .returned (.bool false) ∧ w' = w := by
  have HW0 : Hid (¬ Ws (((s[0]'(by omega)).toNat : Int))) := by rw [oct_at s 0 (by omega)]; exact hw
  have HWL : Hid (Ws (((s[s.size - 1]'(by omega)).toNat : Int))) := by rw [oct_at s (s.size - 1) (by omega)]; exact hl
  clear hw hl
  go_enter Try.func18, Try.ntmps18
  go_wp2
  refine wp_loop_rounds 1 ?_
  rw [rounds_succ]
  go_wp2_with (go_at_call 31; refine (ws_no _ _ HW0.out).mono ?_; rintro e w' ⟨rfl, rfl⟩)
  go_loop [4] (fun i => ∃ j : Nat, j ≤ s.size ∧ i = .int .i64 (j : Int)) (fun i => (intOf i).toNat)
  case atStart => exact ⟨s.size, Nat.le_refl _, rfl⟩
  case round =>
    obtain ⟨j, hjn, rfl⟩ := hrel
    by_cases hj0 : 0 < j
    · have hj1 : j - 1 < s.size := by omega
      by_cases hwj : Ws (((s[j - 1]'hj1).toNat : Int))
      · have HWJ := hid hwj
        clear hwj
        go_wp2_with (go_at_call 31; refine (ws_yes _ _ HWJ.out).mono ?_; rintro e w' ⟨rfl, rfl⟩)
        go_round
        case rel => exact ⟨j - 1, by omega, by go_num⟩
        case measure => simp [intOf]; omega
      · have hne : ¬ j = s.size := fun e => by
          subst e
          exact hwj HWL.out
        have hne' : ((j : Int) != (s.size : Int)) = true := by simp; omega
        have HWJ := hid hwj
        clear hwj hne
        go_wp2_with (go_at_call 31; refine (ws_no _ _ HWJ.out).mono ?_; rintro e w' ⟨rfl, rfl⟩)
        go_ret
        exact ⟨rfl, rfl⟩
    · obtain rfl : j = 0 := by omega
      have hne' : ((0 : Int) != (s.size : Int)) = true := by simp; omega
      go_wp2
      go_ret
      exact ⟨rfl, rfl⟩

set_option maxRecDepth 100000 in
set_option maxHeartbeats 1000000 in
/-- no space or tab at an edge -/
theorem hmodel_main (s : ByteArray) (w : World) (h1 : 1 ≤ s.size) (hs : s.size ≤ 1048576) (hw : ¬ Ws ((oct s).getD 0 0)) (hl : ¬ Ws ((oct s).getD (s.size - 1) 0)) :
    Calls Try.prog 18 #[.string s] w (Ans (HV (oct s)) w) := by
  have HL := hid (length_oct s)
  have HE0 := hid hw
  have HEL := hid hl
  have HW0 : Hid (¬ Ws (((s[0]'(by omega)).toNat : Int))) := by rw [oct_at s 0 (by omega)]; exact hw
  have HWL : Hid (¬ Ws (((s[s.size - 1]'(by omega)).toNat : Int))) := by rw [oct_at s (s.size - 1) (by omega)]; exact hl
  clear hw hl
  go_enter Try.func18, Try.ntmps18
  go_wp2
  refine wp_loop_rounds 1 ?_
  rw [rounds_succ]
  go_wp2_with (go_at_call 31; refine (ws_no _ _ HW0.out).mono ?_; rintro e w' ⟨rfl, rfl⟩)
  refine wp_loop_rounds 1 ?_
  rw [rounds_succ]
  go_wp2_with (go_at_call 31; refine (ws_no _ _ HWL.out).mono ?_; rintro e w' ⟨rfl, rfl⟩)
  go_loop [5] (fun i => ∃ k : Nat, k ≤ s.size ∧ i = .int .i64 (k : Int) ∧ Hid (HVk (oct s) k)) (fun i => s.size - (intOf i).toNat)
  case atStart => exact ⟨0, Nat.zero_le _, rfl, fun i hi => by omega⟩
  case round =>
    obtain ⟨k, hk, rfl, HI⟩ := hrel
    by_cases hlt : k < s.size
    · obtain ⟨c, hcc⟩ : ∃ c : Int, ((s[k]'hlt).toNat : Int) = c := ⟨_, rfl⟩
      have HCC : Hid ((oct s).getD k 0 = c) := hid (by rw [← oct_at s k hlt]; exact hcc)
      have HLT : Hid (k < (oct s).length) := hid (by rw [length_oct]; exact hlt)
      by_cases hws : Ws c
      · have HWS := hid hws
        have HST : Hid (HVk (oct s) (k + 1)) := hvk_step HI.out ⟨fun _ => by
            refine ⟨fun e => ?_, fun e => ?_⟩
            · subst e; exact HE0.out (by rw [HCC.out]; exact HWS.out)
            · rw [HL.out] at e; subst e; exact HEL.out (by rw [HCC.out]; exact HWS.out), fun h => absurd (by rw [HCC.out]; exact HWS.out) h⟩
        clear hws
        go_wp2_with (go_at_call 31; refine (ws_yes _ _ HWS.out).mono ?_; rintro e w' ⟨rfl, rfl⟩)
        go_round
        case rel => exact ⟨k + 1, by omega, by go_num, HST⟩
        case measure => simp [intOf]; omega
      · have HWS := hid hws
        have HNW : Hid (¬ Ws ((oct s).getD k 0)) := by rw [HCC.out]; exact hws
        clear hws
        by_cases hlow : c < 33
        · have HNO : Hid (¬ HV (oct s)) := fun e => by
            have := ((e k HLT.out).2 HNW.out).1
            rw [HCC.out] at this
            omega
          go_wp2_with (go_at_call 31; refine (ws_no _ _ HWS.out).mono ?_; rintro e w' ⟨rfl, rfl⟩)
          go_ret
          exact Ans.no HNO.out (Below.refl _ _)
        · by_cases hdel : c = 127
          · subst hdel
            have HNO : Hid (¬ HV (oct s)) := fun e => ((e k HLT.out).2 HNW.out).2 HCC.out
            go_wp2_with (go_at_call 31; refine (ws_no _ _ HWS.out).mono ?_; rintro e w' ⟨rfl, rfl⟩)
            go_ret
            exact Ans.no HNO.out (Below.refl _ _)
          · have h127 : (c == 127) = false := beq_eq_false_iff_ne.2 hdel
            have HST : Hid (HVk (oct s) (k + 1)) := hvk_step HI.out ⟨fun h => absurd h HNW.out, fun _ => by rw [HCC.out]; exact ⟨by omega, hdel⟩⟩
            clear hdel
            go_wp2_with (go_at_call 31; refine (ws_no _ _ HWS.out).mono ?_; rintro e w' ⟨rfl, rfl⟩)
            go_round
            case rel => exact ⟨k + 1, by omega, by go_num, HST⟩
            case measure => simp [intOf]; omega
    · obtain rfl : k = s.size := by omega
      go_wp2
      go_ret
      exact Ans.yes (fun i hi => HI.out i (by rw [← HL.out]; exact hi)) (Below.refl _ _)

theorem hmodel_any (s : ByteArray) (w : World) (hs : s.size ≤ 1048576) : Calls Try.prog 18 #[.string s] w (Ans (HV (oct s)) w) := by
  have HL := length_oct s
  by_cases h0 : s.size = 0
  · refine (hmodel_empty s w h0).mono ?_
    rintro e w' ⟨rfl, rfl⟩
    exact Ans.yes (fun i hi => by omega) (Below.refl _ _)
  · by_cases hw : Ws ((oct s).getD 0 0)
    · refine (hmodel_first s w (by omega) hs hw).mono ?_
      rintro e w' ⟨rfl, rfl⟩
      exact Ans.no (fun e => ((e 0 (by omega)).1 hw).1 rfl) (Below.refl _ _)
    · by_cases hl : Ws ((oct s).getD (s.size - 1) 0)
      · refine (hmodel_last s w (by omega) hs hw hl).mono ?_
        rintro e w' ⟨rfl, rfl⟩
        exact Ans.no (fun e => ((e (s.size - 1) (by omega)).1 hl).2 (by omega)) (Below.refl _ _)
      · exact hmodel_main s w (by omega) hs hw hl

theorem zzhvalid_any (s : ByteArray) (w : World) (hs : s.size ≤ 1048576) : Calls Try.prog 17 #[.string s] w (Ans (HV (oct s)) w) := by
  have HS := hid hs
  clear hs
  go_enter Try.func17, Try.ntmps17
  go_wp2_with fail
  refine (hvalid_any s _ HS.out).mono ?_
  rintro e w' ⟨b, rfl, hb, hbel⟩
  have HB := hid hb
  clear hb
  go_wp2
  go_ret
  exact ⟨b, rfl, HB.out, hbel⟩

set_option maxRecDepth 100000 in
set_option maxHeartbeats 400000 in
theorem zz16_yes (s : ByteArray) (w : World) (h : s.size ≤ 1048576) : Calls Try.prog 16 #[.string s] w fun e w' => e = .returned (.bool true) ∧ w' = w := by
  go_enter Try.func16, Try.ntmps16
  go_wp2
  go_ret
  exact ⟨rfl, rfl⟩

set_option maxRecDepth 100000 in
set_option maxHeartbeats 400000 in
theorem zz16_no (s : ByteArray) (w : World) (h : ¬ s.size ≤ 1048576) (hm : s.size ≤ maxLen) : Calls Try.prog 16 #[.string s] w fun e w' => e = .returned (.bool false) ∧ w' = w := by
  unfold maxLen at hm
  go_enter Try.func16, Try.ntmps16
  go_wp2
  go_ret
  exact ⟨rfl, rfl⟩

set_option maxRecDepth 100000 in
set_option maxHeartbeats 400000 in
theorem l5 (s : ByteArray) (w : World) (hm : s.size ≤ maxLen) : Calls Try.prog 5 #[.string s] w fun e w' => e = .returned (.bool true) ∧ Below w.heap.size w w' := by
  have HM := hid hm
  by_cases h : s.size ≤ 1048576
  · by_cases h' : s.size ≤ 65536
    · clear hm
      go_enter Try.func5, Try.ntmps5
      go_wp2_with (go_at_call 16; refine (zz16_yes _ _ h).mono ?_; rintro e w' ⟨rfl, rfl⟩)
      refine (zzhvalid_any s _ h).mono ?_
      rintro e w1 ⟨b1, rfl, hb1, hbel1⟩
      have HB1 := hid hb1
      clear hb1
      go_wp2_with fail
      refine (hmodel_any s _ h).mono ?_
      rintro e w2 ⟨b2, rfl, hb2, hbel2⟩
      obtain rfl := ans_same HB1.out hb2
      clear hb2
      go_wp2
      go_ret
      exact ⟨by simp, hbel1.trans (hbel2.mono hbel1.size)⟩
    · unfold maxLen at hm
      go_enter Try.func5, Try.ntmps5
      go_wp2_with (go_at_call 16; refine (zz16_yes _ _ h).mono ?_; rintro e w' ⟨rfl, rfl⟩)
      go_ret
      exact ⟨rfl, Below.refl _ _⟩
  · go_enter Try.func5, Try.ntmps5
    go_wp2_with (go_at_call 16; refine (zz16_no _ _ h HM.out).mono ?_; rintro e w' ⟨rfl, rfl⟩)
    go_ret
    exact ⟨rfl, Below.refl _ _⟩

end Go.Proofs.Qxb6000545a
