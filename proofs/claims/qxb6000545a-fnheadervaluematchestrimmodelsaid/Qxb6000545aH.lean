/-
  HEADER VALUES: the contracts of isHeaderWS (31), validHeaderValue (30), modelHeaderValue (18).
-/
import Derived.Test.Qxb6000545aL3
namespace Go.Proofs.Qxb6000545a
open Go.RowKit

/-- a space or a tab -/
def Ws (c : Int) : Prop := c = 32 ∨ c = 9

set_option maxRecDepth 100000 in
set_option maxHeartbeats 400000 in
theorem ws_yes (c : Int) (w : World) (h : Ws c) :
    Calls Try.prog 31 #[.int .u8 c] w fun e w' => e = .returned (.bool true) ∧ w' = w := by
  rcases h with rfl | rfl
  all_goals
    go_enter Try.func31, Try.ntmps31
    go_wp2
    go_ret
    exact ⟨rfl, rfl⟩

set_option maxRecDepth 100000 in
set_option maxHeartbeats 400000 in
theorem ws_no (c : Int) (w : World) (h : ¬ Ws c) :
    Calls Try.prog 31 #[.int .u8 c] w fun e w' => e = .returned (.bool false) ∧ w' = w := by
  have h1 : (c == 32) = false := beq_eq_false_iff_ne.2 (fun e => h (.inl e))
  have h2 : (c == 9) = false := beq_eq_false_iff_ne.2 (fun e => h (.inr e))
  clear h
  go_enter Try.func31, Try.ntmps31
  go_wp2
  go_ret
  exact ⟨rfl, rfl⟩

/-- the field values: no space or tab at an edge, no control octet -/
def HV (xs : List Int) : Prop :=
  ∀ i, i < xs.length → (Ws (xs.getD i 0) → i ≠ 0 ∧ i ≠ xs.length - 1) ∧ (¬ Ws (xs.getD i 0) → 33 ≤ xs.getD i 0 ∧ xs.getD i 0 ≠ 127)

/-- the first k octets are such -/
def HVk (xs : List Int) (k : Nat) : Prop :=
  ∀ i, i < k → (Ws (xs.getD i 0) → i ≠ 0 ∧ i ≠ xs.length - 1) ∧ (¬ Ws (xs.getD i 0) → 33 ≤ xs.getD i 0 ∧ xs.getD i 0 ≠ 127)

theorem hvk_step {xs : List Int} {k : Nat} (h : HVk xs k) (hk : (Ws (xs.getD k 0) → k ≠ 0 ∧ k ≠ xs.length - 1) ∧ (¬ Ws (xs.getD k 0) → 33 ≤ xs.getD k 0 ∧ xs.getD k 0 ≠ 127)) : HVk xs (k + 1) := by
  intro i hi
  by_cases hik : i = k
  · subst hik; exact hk
  · exact h i (by omega)

set_option maxRecDepth 100000 in
set_option maxHeartbeats 2000000 in
theorem hvalid_any (s : ByteArray) (w : World) (hs : s.size ≤ 1048576) :
    Calls Try.prog 30 #[.string s] w (Ans (HV (oct s)) w) := by
  have hcv2 := fun w s => run_bytes_of_string (P := Try.prog) w 9 26 5 s Try.underlying9 Try.underlying26 Try.underlying5
  obtain ⟨cap, hcap⟩ : ∃ cap, grownCap w s.size 0 5 = cap := ⟨_, rfl⟩
  have HL := hid (length_oct s)
  have HC := hid (bytes_cell w s cap)
  go_enter Try.func30, Try.ntmps30
  go_wp2
  clear hcv2
  go_loop [8] (fun i => ∃ k : Nat, k ≤ s.size ∧ i = .int .i64 (k : Int) ∧ Hid (HVk (oct s) k)) (fun i => s.size - (intOf i).toNat)
  case atStart => exact ⟨0, Nat.zero_le _, rfl, fun i hi => by omega⟩
  case round =>
    obtain ⟨k, hk, rfl, HI⟩ := hrel
    by_cases hlt : k < s.size
    · have ec := HC.out ((bytesRow s cap).size, (bytesRow s cap).size + 1) k hlt
      obtain ⟨c, hc⟩ : ∃ c, c = (oct s).getD k 0 := ⟨_, rfl⟩
      rw [← hc] at ec
      have HCC := hid hc
      clear hc
      have HLT : Hid (k < (oct s).length) := hid (by rw [length_oct]; exact hlt)
      by_cases hws : Ws c
      · have HWS : Hid (Ws ((oct s).getD k 0)) := by rw [← HCC.out]; exact hws
        by_cases hedge : k = 0 ∨ k = s.size - 1
        · have HNO : Hid (¬ HV (oct s)) := fun e => by
            have := (e k HLT.out).1 HWS.out
            rw [HL.out] at this
            omega
          by_cases hk0 : k = 0
          · subst hk0
            clear hedge
            rcases hws with rfl | rfl
            all_goals
              go_wp2
              go_ret
              exact Ans.no HNO.out (below_mark _ _)
          · have hge : (s.size : Int) ≤ (k : Int) + 1 := by omega
            have hb0 : ((k : Int) == 0) = false := beq_eq_false_iff_ne.2 (by omega)
            clear hedge
            rcases hws with rfl | rfl
            all_goals
              go_wp2
              go_ret
              exact Ans.no HNO.out (below_mark _ _)
        · have hb0 : ((k : Int) == 0) = false := beq_eq_false_iff_ne.2 (by omega)
          have hb1 : ((k : Int) == (s.size : Int) - 1) = false := beq_eq_false_iff_ne.2 (by omega)
          have HST : Hid (HVk (oct s) (k + 1)) := hvk_step HI.out ⟨fun _ => by rw [HL.out]; omega, fun h => absurd HWS.out h⟩
          clear hedge
          rcases hws with rfl | rfl
          all_goals
            go_wp2
            go_round
            case rel => exact ⟨k + 1, by omega, by go_num, HST⟩
            case measure => simp [intOf]; omega
      · have h32 : (c == 32) = false := beq_eq_false_iff_ne.2 (fun e => hws (.inl e))
        have h9 : (c == 9) = false := beq_eq_false_iff_ne.2 (fun e => hws (.inr e))
        have HNW : Hid (¬ Ws ((oct s).getD k 0)) := by rw [← HCC.out]; exact hws
        clear hws
        by_cases hlow : c < 33
        · have HNO : Hid (¬ HV (oct s)) := fun e => by
            have := ((e k HLT.out).2 HNW.out).1
            rw [← HCC.out] at this
            omega
          go_wp2
          go_ret
          exact Ans.no HNO.out (below_mark _ _)
        · by_cases hdel : c = 127
          · subst hdel
            have HNO : Hid (¬ HV (oct s)) := fun e => ((e k HLT.out).2 HNW.out).2 HCC.out.symm
            go_wp2
            go_ret
            exact Ans.no HNO.out (below_mark _ _)
          · have h127 : (c == 127) = false := beq_eq_false_iff_ne.2 hdel
            have HST : Hid (HVk (oct s) (k + 1)) := hvk_step HI.out ⟨fun h => absurd h HNW.out, fun _ => by rw [← HCC.out]; exact ⟨by omega, hdel⟩⟩
            clear hdel
            go_wp2
            go_round
            case rel => exact ⟨k + 1, by omega, by go_num, HST⟩
            case measure => simp [intOf]; omega
    · obtain rfl : k = s.size := by omega
      go_wp2
      go_ret
      exact Ans.yes (fun i hi => HI.out i (by rw [← HL.out]; exact hi)) (below_mark _ _)

end Go.Proofs.Qxb6000545a
