/-
  validEventType (28).
-/
import Derived.Test.Qxb6000545aE
namespace Go.Proofs.Qxb6000545a
open Go.RowKit

theorem below_mark (w : World) (o : Obj) : Below w.heap.size w (w.alloc o).drew := ((Below.refl _ _).alloc (Nat.le_refl _) _).drew

set_option maxRecDepth 100000 in
set_option maxHeartbeats 400000 in
theorem valid_len (s : ByteArray) (w : World) (h : s.size = 0 ∨ 128 < s.size) (hm : s.size ≤ maxLen) :
    Calls Try.prog 28 #[.string s] w fun e w' => e = .returned (.bool false) ∧ w' = w := by
  unfold maxLen at hm
  rcases h with h | h
  · go_enter Try.func28, Try.ntmps28
    go_wp2
    go_ret
    exact ⟨rfl, rfl⟩
  · have hz : ((s.size : Int) == 0) = false := beq_eq_false_iff_ne.2 (by omega)
    go_enter Try.func28, Try.ntmps28
    go_wp2
    go_ret
    exact ⟨rfl, rfl⟩

set_option maxRecDepth 100000 in
set_option maxHeartbeats 2000000 in
theorem valid_main (s : ByteArray) (w : World) (h1 : 1 ≤ s.size) (h2 : s.size ≤ 128) :
    Calls Try.prog 28 #[.string s] w (Ans (ET (oct s)) w) := by
  have hcv2 := fun w s => run_bytes_of_string (P := Try.prog) w 9 26 5 s Try.underlying9 Try.underlying26 Try.underlying5
  obtain ⟨cap, hcap⟩ : ∃ cap, grownCap w s.size 0 5 = cap := ⟨_, rfl⟩
  have HL := hid (length_oct s)
  have hz : ((s.size : Int) == 0) = false := beq_eq_false_iff_ne.2 (by omega)
  have HC := hid (bytes_cell w s cap)
  go_enter Try.func28, Try.ntmps28
  go_wp2
  clear hcv2
  go_loop [3, 17] (fun p i => ∃ (k : Nat) (ps : Bool), k ≤ s.size ∧ i = .int .i64 (k : Int) ∧ p = .bool ps ∧ Hid (Inv (oct s) k ps)) (fun _ i => s.size - (intOf i).toNat)
  case atStart => exact ⟨0, true, Nat.zero_le _, rfl, rfl, inv_start _⟩
  case round =>
    obtain ⟨k, ps, hk, rfl, rfl, HI⟩ := hrel
    by_cases hlt : k < s.size
    · have ec := HC.out ((bytesRow s cap).size, (bytesRow s cap).size + 1) k hlt
      obtain ⟨c, hc⟩ : ∃ c, c = (oct s).getD k 0 := ⟨_, rfl⟩
      have hcb := oct_bd s k
      rw [← hc] at ec hcb
      have HCC := hid hc
      clear hc
      have HLT : Hid (k < (oct s).length) := hid (by rw [length_oct]; exact hlt)
      by_cases hd : c = 46
      · subst hd
        cases ps with
        | true =>
          go_wp2
          go_ret
          exact Ans.no (bad_dot HI.out HLT.out HCC.out.symm) (below_mark _ _)
        | false =>
          go_wp2
          go_round
          case rel => exact ⟨k + 1, true, by omega, by go_num, rfl, inv_dot HI.out HCC.out.symm⟩
          case measure => simp [intOf]; omega
      · by_cases hw : Wd c
        · have HW : Hid (Inv (oct s) (k + 1) false) := inv_word HI.out (by rw [← HCC.out]; exact hw)
          rcases hw with rfl | ⟨g1, g2⟩ | ⟨g1, g2⟩ | ⟨g1, g2⟩
          all_goals
            clear hd
            go_wp2
            go_round
            case rel => exact ⟨k + 1, false, by omega, by go_num, rfl, HW⟩
            case measure => simp [intOf]; omega
        · have HNO := hid (bad_other HLT.out (by rw [← HCC.out]; exact hd) (by rw [← HCC.out]; exact hw))
          have h' : c < 46 ∨ c = 47 ∨ (58 ≤ c ∧ c ≤ 64) ∨ (91 ≤ c ∧ c ≤ 94) ∨ c = 96 ∨ 123 ≤ c := by unfold Wd at hw; omega
          have h95 : (c == 95) = false := beq_eq_false_iff_ne.2 (by omega)
          clear hw hd
          rcases h' with g1 | rfl | ⟨g1, g2⟩ | ⟨g1, g2⟩ | rfl | g1
          all_goals
            go_wp2
            go_ret
            exact Ans.no HNO.out (below_mark _ _)
    · obtain rfl : k = s.size := by omega
      have HI2 := HI
      rw [← HL.out] at HI2
      cases ps with
      | true =>
        go_wp2
        go_ret
        exact Ans.no (end_no HI2.out (by rw [HL.out]; exact h1)) (below_mark _ _)
      | false =>
        go_wp2
        go_ret
        exact Ans.yes (end_yes HI2.out (by rw [HL.out]; exact h1) (by rw [HL.out]; exact h2)) (below_mark _ _)

end Go.Proofs.Qxb6000545a
