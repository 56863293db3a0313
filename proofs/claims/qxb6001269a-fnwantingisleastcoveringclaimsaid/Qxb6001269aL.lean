/-
  FnWantingIsLeastCoveringClaim (3): her walk.
-/
import Derived.Test.Qxb6001269aH
namespace Go.Proofs.Qxb6001269a
open Go.RowKit

/-! the plain law -/
theorem share_bd (p r : Int) (hr : 1 ≤ r) (hr2 : r ≤ 1073741824) (hp : 0 ≤ p) (hp2 : p ≤ 1073741824) : 0 ≤ (p + r - 1) / r ∧ (p + r - 1) / r ≤ 2147483648 := by
  refine ⟨Int.ediv_nonneg (by omega) (by omega), ?_⟩
  have h1 : (p + r - 1) / r * r ≤ p + r - 1 := Int.ediv_mul_le _ (by omega)
  have h0 : 0 ≤ (p + r - 1) / r := Int.ediv_nonneg (by omega) (by omega)
  have h2 : (p + r - 1) / r * 1 ≤ (p + r - 1) / r * r := Int.mul_le_mul_of_nonneg_left hr h0
  omega

theorem share_up (p r : Int) (hr : 1 ≤ r) : p ≤ (p + r - 1) / r * r := by
  have h1 := Int.lt_ediv_add_one_mul_self (p + r - 1) (show 0 < r by omega)
  have h2 : ((p + r - 1) / r + 1) * r = (p + r - 1) / r * r + r := by rw [Int.add_mul, Int.one_mul]
  omega

theorem share_low (p r : Int) (hr : 1 ≤ r) : ((p + r - 1) / r - 1) * r < p := by
  have h1 : (p + r - 1) / r * r ≤ p + r - 1 := Int.ediv_mul_le _ (by omega)
  have h2 : ((p + r - 1) / r - 1) * r = (p + r - 1) / r * r - r := by rw [Int.sub_mul, Int.one_mul]
  omega

theorem mul_bd (x r : Int) (h0 : 0 ≤ x) (h1 : x ≤ 2147483648) (hr : 1 ≤ r) (hr2 : r ≤ 1073741824) : 0 ≤ x * r ∧ x * r ≤ 2305843009213693952 := by
  refine ⟨Int.mul_nonneg h0 (by omega), ?_⟩
  have a : x * r ≤ x * 1073741824 := Int.mul_le_mul_of_nonneg_left hr2 h0
  omega

theorem cover (n S p r : Int) (hr : 1 ≤ r) (hS : p ≤ S * r) (h : S ≤ n) : p ≤ n * r := by
  have a : S * r ≤ n * r := Int.mul_le_mul_of_nonneg_right h (by omega)
  omega

set_option maxRecDepth 100000 in
set_option maxHeartbeats 400000 in
theorem zz6_yes (a0 : Bool) (r x p f : Int) (a : Option Addr) (n c : Nat) (w : World) (h : n ≤ 1048576) :
    Calls Try.prog 6 #[.bool a0, .int .i64 r, .int .i64 x, .int .i64 p, .slice a n c, .int .i64 f] w fun e w' => e = .returned (.bool true) ∧ w' = w := by
  go_enter Try.func6, Try.ntmps6
  go_wp2
  go_ret
  exact ⟨rfl, rfl⟩

set_option maxRecDepth 100000 in
set_option maxHeartbeats 400000 in
theorem zz6_no (a0 : Bool) (r x p f : Int) (a : Option Addr) (n c : Nat) (w : World) (h : ¬ n ≤ 1048576) (hm : n ≤ maxLen) :
    Calls Try.prog 6 #[.bool a0, .int .i64 r, .int .i64 x, .int .i64 p, .slice a n c, .int .i64 f] w fun e w' => e = .returned (.bool false) ∧ w' = w := by
  unfold maxLen at hm
  go_enter Try.func6, Try.ntmps6
  go_wp2
  go_ret
  exact ⟨rfl, rfl⟩

set_option maxRecDepth 100000 in
set_option maxHeartbeats 1000000 in
theorem l_small (a0 : Bool) (r x p f : Int) (a : Option Addr) (n c : Nat) (w : World) (hm : n ≤ maxLen)
    (h : ¬ n ≤ 1048576 ∨ (n ≤ 1048576 ∧ 262144 < n) ∨ (n ≤ 262144 ∧ r < 1) ∨ (n ≤ 262144 ∧ 1073741824 < r) ∨ (n ≤ 262144 ∧ 1 ≤ r ∧ r ≤ 1073741824 ∧ p < 0) ∨ (n ≤ 262144 ∧ 1 ≤ r ∧ r ≤ 1073741824 ∧ 1073741824 < p)) :
    Calls Try.prog 3 #[.bool a0, .int .i64 r, .int .i64 x, .int .i64 p, .slice a n c, .int .i64 f] w fun e w' => e = .returned (.bool true) ∧ Below w.heap.size w w' := by
  rcases h with h | ⟨h, h'⟩ | ⟨h, h'⟩ | ⟨h, h'⟩ | ⟨h, h1, h2, h'⟩ | ⟨h, h1, h2, h'⟩
  · go_enter Try.func3, Try.ntmps3
    go_wp2_with (go_at_call 6; refine (zz6_no _ _ _ _ _ _ _ _ _ h hm).mono ?_; rintro e w' ⟨rfl, rfl⟩)
    go_ret
    exact ⟨rfl, Below.refl _ _⟩
  all_goals
    go_enter Try.func3, Try.ntmps3
    go_wp2_with (go_at_call 6; refine (zz6_yes _ _ _ _ _ _ _ _ _ (by omega)).mono ?_; rintro e w' ⟨rfl, rfl⟩)
    go_ret
    exact ⟨rfl, Below.refl _ _⟩

set_option maxRecDepth 100000 in
set_option maxHeartbeats 1000000 in
theorem l_main (a0 : Bool) (r x p f : Int) (a : Option Addr) (n c : Nat) (w : World) (hn : n ≤ 262144) (hr : 1 ≤ r) (hr2 : r ≤ 1073741824) (hp : 0 ≤ p) (hp2 : p ≤ 1073741824)
    (hcopy : Hid (Calls Try.prog 7 #[.slice a n c] w fun e w' => ∃ a', e = .returned (.slice a' n n) ∧ Below w.heap.size w w')) :
    Calls Try.prog 3 #[.bool a0, .int .i64 r, .int .i64 x, .int .i64 p, .slice a n c, .int .i64 f] w fun e w' => e = .returned (.bool true) ∧ Below w.heap.size w w' := by
  by_cases hf : f = 0
  · subst hf
    go_enter Try.func3, Try.ntmps3
    go_wp2_with (go_at_call 6; refine (zz6_yes _ _ _ _ _ _ _ _ _ (by omega)).mono ?_; rintro e w' ⟨rfl, rfl⟩)
    refine hcopy.out.mono ?_
    rintro e w1 ⟨a', rfl, hb1⟩
    go_wp2_with fail
    refine (zzwanting_none _ _ _ _ _ _ _ _).mono ?_
    rintro e w2 ⟨rfl, hb2⟩
    go_wp2
    go_ret
    exact ⟨rfl, (hb1.alloc hb1.size _).trans (hb2.mono (by have := hb1.size; simp; omega))⟩
  · have hf' : (f == 0) = false := by simpa using hf
    obtain ⟨S, hS⟩ : ∃ S, (p + r - 1) / r = S := ⟨_, rfl⟩
    have hbd := share_bd p r hr hr2 hp hp2
    have hup := share_up p r hr
    have hlow := share_low p r hr
    rw [hS] at hbd hup hlow
    have HS := hid hS
    clear hS hf
    by_cases hle : S ≤ n
    · have hcov := cover n S p r hr hup hle
      have hmb := mul_bd n r (by omega) (by omega) hr hr2
      clear hup hlow
      go_enter Try.func3, Try.ntmps3
      go_wp2_with (go_at_call 6; refine (zz6_yes _ _ _ _ _ _ _ _ _ (by omega)).mono ?_; rintro e w' ⟨rfl, rfl⟩)
      refine hcopy.out.mono ?_
      rintro e w1 ⟨a', rfl, hb1⟩
      go_wp2_with fail
      refine (zzwanting_some _ _ _ _ _ S _ _ _ _ hr hr2 hp hp2 hf' HS.out hbd.1 hbd.2 (by omega) 0 (by rw [if_pos hle])).mono ?_
      rintro e w2 ⟨rfl, hb2⟩
      go_wp2
      go_ret
      exact ⟨rfl, (hb1.alloc hb1.size _).trans (hb2.mono (by have := hb1.size; simp; omega))⟩
    · obtain ⟨W, hW⟩ : ∃ W, W = S - n := ⟨_, rfl⟩
      have hWS : S = n + W := by omega
      have hW0 : 0 < W := by omega
      have hWz : (W == 0) = false := by simp; omega
      have hWb : W ≤ 2147483648 := by omega
      rw [hWS] at hup hlow
      have hmb := mul_bd (n + W) r (by omega) (by omega) hr hr2
      have hmb2 := mul_bd (n + W - 1) r (by omega) (by omega) hr hr2
      have HW : Hid (W = if S ≤ n then 0 else S - n) := hid (by rw [if_neg hle]; exact hW)
      have HB : Hid (0 ≤ S ∧ S ≤ 2147483648) := hid hbd
      clear hW hWS hle hbd
      go_enter Try.func3, Try.ntmps3
      go_wp2_with (go_at_call 6; refine (zz6_yes _ _ _ _ _ _ _ _ _ (by omega)).mono ?_; rintro e w' ⟨rfl, rfl⟩)
      refine hcopy.out.mono ?_
      rintro e w1 ⟨a', rfl, hb1⟩
      go_wp2_with fail
      refine (zzwanting_some _ _ _ _ _ S _ _ _ _ hr hr2 hp hp2 hf' HS.out HB.out.1 HB.out.2 (by omega) W HW.out).mono ?_
      rintro e w2 ⟨rfl, hb2⟩
      go_wp2
      go_ret
      exact ⟨rfl, (hb1.alloc hb1.size _).trans (hb2.mono (by have := hb1.size; simp; omega))⟩

end Go.Proofs.Qxb6001269a
