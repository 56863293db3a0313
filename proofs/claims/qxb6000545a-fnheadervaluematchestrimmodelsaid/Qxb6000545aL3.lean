/-
  FnEventTypeMatchesModel (3): her walk.
-/
import Derived.Test.Qxb6000545aM
namespace Go.Proofs.Qxb6000545a
open Go.RowKit

theorem valid_any (s : ByteArray) (w : World) (hm : s.size ≤ maxLen) : Calls Try.prog 28 #[.string s] w (Ans (ET (oct s)) w) := by
  by_cases h : s.size = 0 ∨ 128 < s.size
  · refine (valid_len s w h hm).mono ?_
    rintro e w' ⟨rfl, rfl⟩
    exact Ans.no (len_no (by rw [length_oct]; exact h)) (Below.refl _ _)
  · exact valid_main s w (by omega) (by omega)

theorem model_any (s : ByteArray) (w : World) (hm : s.size ≤ maxLen) : Calls Try.prog 14 #[.string s] w (Ans (ET (oct s)) w) := by
  by_cases h : s.size = 0 ∨ 128 < s.size
  · refine (model_len s w h hm).mono ?_
    rintro e w' ⟨rfl, rfl⟩
    exact Ans.no (len_no (by rw [length_oct]; exact h)) (Below.refl _ _)
  · by_cases hc : (((s[0]'(by omega)).toNat : Int) == 46) = true
    · refine (model_first s w (by omega) (by omega) hc).mono ?_
      rintro e w' ⟨rfl, rfl⟩
      refine Ans.no (fun e => e.2.2.1 ?_) (Below.refl _ _)
      rw [← oct_at s 0 (by omega)]; exact beq_iff_eq.1 hc
    · have hc' := Bool.eq_false_iff.2 hc
      by_cases hl : (((s[s.size - 1]'(by omega)).toNat : Int) == 46) = true
      · refine (model_last s w (by omega) (by omega) hc' hl).mono ?_
        rintro e w' ⟨rfl, rfl⟩
        refine Ans.no (fun e => e.2.2.2.1 ?_) (Below.refl _ _)
        rw [length_oct, ← oct_at s (s.size - 1) (by omega)]; exact beq_iff_eq.1 hl
      · exact model_main s w (by omega) (by omega) hc' (Bool.eq_false_iff.2 hl)

theorem zzvalid_any (s : ByteArray) (w : World) (hm : s.size ≤ maxLen) : Calls Try.prog 13 #[.string s] w (Ans (ET (oct s)) w) := by
  go_enter Try.func13, Try.ntmps13
  go_wp2_with fail
  refine (valid_any s _ hm).mono ?_
  rintro e w' ⟨b, rfl, hb, hbel⟩
  have HB := hid hb
  clear hb
  go_wp2
  go_ret
  exact ⟨b, rfl, HB.out, hbel⟩

theorem ans_same {p : Prop} {a b : Bool} (h1 : a = true ↔ p) (h2 : b = true ↔ p) : a = b := by
  rw [Bool.eq_iff_iff]; exact h1.trans h2.symm

set_option maxRecDepth 100000 in
set_option maxHeartbeats 400000 in
theorem zz12_yes (s : ByteArray) (w : World) (h : s.size ≤ 1048576) : Calls Try.prog 12 #[.string s] w fun e w' => e = .returned (.bool true) ∧ w' = w := by
  go_enter Try.func12, Try.ntmps12
  go_wp2
  go_ret
  exact ⟨rfl, rfl⟩

set_option maxRecDepth 100000 in
set_option maxHeartbeats 400000 in
theorem zz12_no (s : ByteArray) (w : World) (h : ¬ s.size ≤ 1048576) (hm : s.size ≤ maxLen) : Calls Try.prog 12 #[.string s] w fun e w' => e = .returned (.bool false) ∧ w' = w := by
  unfold maxLen at hm
  go_enter Try.func12, Try.ntmps12
  go_wp2
  go_ret
  exact ⟨rfl, rfl⟩

set_option maxRecDepth 100000 in
set_option maxHeartbeats 400000 in
theorem l3 (s : ByteArray) (w : World) (hm : s.size ≤ maxLen) : Calls Try.prog 3 #[.string s] w fun e w' => e = .returned (.bool true) ∧ Below w.heap.size w w' := by
  have HM := hid hm
  by_cases h : s.size ≤ 1048576
  · by_cases h' : s.size ≤ 65536
    · clear hm
      go_enter Try.func3, Try.ntmps3
      go_wp2_with (go_at_call 12; refine (zz12_yes _ _ h).mono ?_; rintro e w' ⟨rfl, rfl⟩)
      refine (zzvalid_any s _ HM.out).mono ?_
      rintro e w1 ⟨b1, rfl, hb1, hbel1⟩
      have HB1 := hid hb1
      clear hb1
      go_wp2_with fail
      refine (model_any s _ HM.out).mono ?_
      rintro e w2 ⟨b2, rfl, hb2, hbel2⟩
      obtain rfl := ans_same HB1.out hb2
      clear hb2
      go_wp2
      go_ret
      exact ⟨by simp, hbel1.trans (hbel2.mono hbel1.size)⟩
    · unfold maxLen at hm
      go_enter Try.func3, Try.ntmps3
      go_wp2_with (go_at_call 12; refine (zz12_yes _ _ h).mono ?_; rintro e w' ⟨rfl, rfl⟩)
      go_ret
      exact ⟨rfl, Below.refl _ _⟩
  · go_enter Try.func3, Try.ntmps3
    go_wp2_with (go_at_call 12; refine (zz12_no _ _ h HM.out).mono ?_; rintro e w' ⟨rfl, rfl⟩)
    go_ret
    exact ⟨rfl, Below.refl _ _⟩

end Go.Proofs.Qxb6000545a
