/-
  modelEventType (14).
-/
import Derived.Test.Qxb6000545aV
namespace Go.Proofs.Qxb6000545a
open Go.RowKit

set_option maxRecDepth 100000 in
set_option maxHeartbeats 400000 in
theorem model_len (s : ByteArray) (w : World) (h : s.size = 0 ∨ 128 < s.size) (hm : s.size ≤ maxLen) :
    Calls Try.prog 14 #[.string s] w fun e w' => e = .returned (.bool false) ∧ w' = w := by
  unfold maxLen at hm
  rcases h with h | h
  all_goals
    go_enter Try.func14, Try.ntmps14
    go_wp2
    go_ret
    exact ⟨rfl, rfl⟩

set_option maxRecDepth 100000 in
set_option maxHeartbeats 400000 in
theorem model_first (s : ByteArray) (w : World) (h1 : 1 ≤ s.size) (h2 : s.size ≤ 128) (hc : (((s[0]'(by omega)).toNat : Int) == 46) = true) :
    Calls Try.prog 14 #[.string s] w fun e w' => e = .returned (.bool false) ∧ w' = w := by
  go_enter Try.func14, Try.ntmps14
  go_wp2
  go_ret
  exact ⟨rfl, rfl⟩

set_option maxRecDepth 100000 in
set_option maxHeartbeats 400000 in
theorem model_last (s : ByteArray) (w : World) (h1 : 1 ≤ s.size) (h2 : s.size ≤ 128) (hc : (((s[0]'(by omega)).toNat : Int) == 46) = false) (hl : (((s[s.size - 1]'(by omega)).toNat : Int) == 46) = true) :
    Calls Try.prog 14 #[.string s] w fun e w' => e = .returned (.bool false) ∧ w' = w := by
  go_enter Try.func14, Try.ntmps14
  go_wp2
  go_ret
  exact ⟨rfl, rfl⟩

/-- what the model has seen ahead of place k -/
def Seen (xs : List Int) (k : Nat) : Prop := ∀ i, i < k → (xs.getD i 0 = 46 ∨ Wd (xs.getD i 0)) ∧ (xs.getD i 0 = 46 → i + 1 < xs.length → xs.getD (i + 1) 0 ≠ 46)

theorem seen_step {xs : List Int} {k : Nat} (h : Seen xs k) (h1 : xs.getD k 0 = 46 ∨ Wd (xs.getD k 0)) (h2 : xs.getD k 0 = 46 → k + 1 < xs.length → xs.getD (k + 1) 0 ≠ 46) : Seen xs (k + 1) := by
  intro i hi
  by_cases hik : i = k
  · subst hik; exact ⟨h1, h2⟩
  · exact h i (by omega)

set_option maxRecDepth 100000 in
set_option maxHeartbeats 1000000 in
theorem model_main (s : ByteArray) (w : World) (h1 : 1 ≤ s.size) (h2 : s.size ≤ 128) (hc : (((s[0]'(by omega)).toNat : Int) == 46) = false) (hl : (((s[s.size - 1]'(by omega)).toNat : Int) == 46) = false) :
    Calls Try.prog 14 #[.string s] w (Ans (ET (oct s)) w) := by
  have HL := hid (length_oct s)
  have HC0 : Hid ((oct s).getD 0 0 ≠ 46) := by
    rw [← oct_at s 0 (by omega)]; exact beq_eq_false_iff_ne.1 hc
  have HCL : Hid ((oct s).getD ((oct s).length - 1) 0 ≠ 46) := by
    rw [length_oct, ← oct_at s (s.size - 1) (by omega)]; exact beq_eq_false_iff_ne.1 hl
  go_enter Try.func14, Try.ntmps14
  go_wp2
  clear hc hl
  go_loop [4] (fun i => ∃ k : Nat, k ≤ s.size ∧ i = .int .i64 (k : Int) ∧ Hid (Seen (oct s) k)) (fun i => s.size - (intOf i).toNat)
  case atStart => exact ⟨0, Nat.zero_le _, rfl, fun i hi => by omega⟩
  case round =>
    obtain ⟨k, hk, rfl, HI⟩ := hrel
    by_cases hlt : k < s.size
    · obtain ⟨c, hcc⟩ : ∃ c : Int, ((s[k]'hlt).toNat : Int) = c := ⟨_, rfl⟩
      have HCC : Hid ((oct s).getD k 0 = c) := hid (by rw [← oct_at s k hlt]; exact hcc)
      by_cases hd : c = 46
      · subst hd
        by_cases hk1 : k + 1 < s.size
        · obtain ⟨d, hdd⟩ : ∃ d : Int, ((s[k + 1]'hk1).toNat : Int) = d := ⟨_, rfl⟩
          have HDD : Hid ((oct s).getD (k + 1) 0 = d) := hid (by rw [← oct_at s (k + 1) hk1]; exact hdd)
          by_cases hdot : d = 46
          · subst hdot
            go_wp2
            go_ret
            refine Ans.no (fun e => ?_) (Below.refl _ _)
            exact (e.2.2.2.2 k (by rw [HL.out]; exact hlt)).2 HCC.out (by rw [HL.out]; exact hk1) HDD.out
          · have hdf : (d == 46) = false := beq_eq_false_iff_ne.2 hdot
            have HDN := hid hdot
            clear hdot
            go_wp2
            go_round
            case rel => exact ⟨k + 1, by omega, by go_num, seen_step HI.out (.inl HCC.out) (fun _ _ => by rw [HDD.out]; exact HDN.out)⟩
            case measure => simp [intOf]; omega
        · go_wp2
          go_round
          case rel => exact ⟨k + 1, by omega, by go_num, seen_step HI.out (.inl HCC.out) (fun _ hh => by rw [HL.out] at hh; omega)⟩
          case measure => simp [intOf]; omega
      · have hdf : (c == 46) = false := beq_eq_false_iff_ne.2 hd
        have HD := hid hd
        clear hd
        by_cases hw : Wd c
        · have HW := hid hw
          clear hw
          go_wp2_with (go_at_call 29; refine (word_yes _ _ HW.out).mono ?_; rintro e w' ⟨rfl, rfl⟩)
          go_round
          case rel => exact ⟨k + 1, by omega, by go_num, seen_step HI.out (.inr (by rw [HCC.out]; exact HW.out)) (fun hh => absurd (HCC.out.symm.trans hh) HD.out)⟩
          case measure => simp [intOf]; omega
        · have HW := hid hw
          clear hw
          go_wp2_with (go_at_call 29; refine (word_no _ _ HW.out).mono ?_; rintro e w' ⟨rfl, rfl⟩)
          go_ret
          refine Ans.no (fun e => ?_) (Below.refl _ _)
          exact ((e.2.2.2.2 k (by rw [HL.out]; exact hlt)).1).elim (fun hh => HD.out (HCC.out.symm.trans hh)) (by rw [HCC.out]; exact HW.out)
    · obtain rfl : k = s.size := by omega
      go_wp2
      go_ret
      exact Ans.yes ⟨by rw [HL.out]; exact h1, by rw [HL.out]; exact h2, HC0.out, HCL.out, fun i hi => HI.out i (by rw [← HL.out]; exact hi)⟩ (Below.refl _ _)

end Go.Proofs.Qxb6000545a
