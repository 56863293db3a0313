/-
  THE CONTRACTS OF share (12), wanting (11), ZZWanting (8).
-/
import Derived.Test.Qxb6001269aRows
import Derived.WalkKit
import Derived.WalkSpells
import Derived.WalkLawsBesides
import Derived.BigQuiet
import Derived.Deep.QuietTactic
import Derived.Deep.RegionWith
namespace Go.Proofs.Qxb6001269a
open Go.RowKit

set_option maxRecDepth 100000 in
set_option maxHeartbeats 400000 in
theorem share_any (a0 : Bool) (r x p f : Int) (a : Option Addr) (n c : Nat) (w : World) (hr : 1 ≤ r) (hr2 : r ≤ 1073741824) (hp : 0 ≤ p) (hp2 : p ≤ 1073741824) :
    Calls Try.prog 12 #[.agg #[.bool a0, .int .i64 r, .int .i64 x, .int .i64 p, .slice a n c, .int .i64 f]] w fun e w' => e = .returned (.int .i64 ((p + r - 1) / r)) ∧ w' = w.alloc (.cells #[.bool a0, .int .i64 r, .int .i64 x, .int .i64 p, .slice a n c, .int .i64 f] 26) := by
  go_enter Try.func12, Try.ntmps12
  go_wp2
  go_ret
  exact ⟨rfl, rfl⟩

theorem ret_int {k : IntKind} {a b : Int} (h : a = b) : Ending.returned (.int k a) = .returned (.int k b) := by rw [h]
theorem hid {p : Prop} (h : p) : Hid p := h

set_option maxRecDepth 100000 in
set_option maxHeartbeats 400000 in
theorem wanting_none (a0 : Bool) (r x p : Int) (a : Option Addr) (n c : Nat) (w : World) :
    Calls Try.prog 11 #[.agg #[.bool a0, .int .i64 r, .int .i64 x, .int .i64 p, .slice a n c, .int .i64 0]] w fun e w' => e = .returned (.int .i64 0) ∧ Below w.heap.size w w' := by
  go_enter Try.func11, Try.ntmps11
  go_wp2
  go_ret
  exact ⟨rfl, (Below.refl _ _).alloc (Nat.le_refl _) _⟩

set_option maxRecDepth 100000 in
set_option maxHeartbeats 400000 in
theorem wanting_some (a0 : Bool) (r x p f S : Int) (a : Option Addr) (n c : Nat) (w : World) (hr : 1 ≤ r) (hr2 : r ≤ 1073741824) (hp : 0 ≤ p) (hp2 : p ≤ 1073741824) (hf : (f == 0) = false) (hS : (p + r - 1) / r = S) (hS0 : 0 ≤ S) (hS1 : S ≤ 2147483648) (hn : n ≤ 4194304) (W : Int) (hW : W = if S ≤ n then 0 else S - n) :
    Calls Try.prog 11 #[.agg #[.bool a0, .int .i64 r, .int .i64 x, .int .i64 p, .slice a n c, .int .i64 f]] w fun e w' => e = .returned (.int .i64 W) ∧ Below w.heap.size w w' := by
  have HS := hid hS
  have HW := hid hW
  clear hS hW
  have hw : IntKind.i64.wrap (S - (n : Int)) = S - n := by rw [IntKind.wrap_i64]; omega
  go_enter Try.func11, Try.ntmps11
  go_wp2_with fail
  go_region_with (go_at_call 12; refine (share_any _ _ _ _ _ _ _ _ _ hr hr2 hp hp2).mono ?_; rw [HS.out]; rintro e w' ⟨rfl, rfl⟩)
  all_goals (try go_wp2)
  all_goals go_ret

  all_goals exact ⟨ret_int (by rw [HW.out]; split <;> omega), by repeat (first | exact Below.refl _ _ | apply Below.drew | (refine Below.alloc ?_ (by simp) _))⟩

theorem zzwanting_none (a0 : Bool) (r x p : Int) (a : Option Addr) (n c : Nat) (w : World) :
    Calls Try.prog 8 #[.agg #[.bool a0, .int .i64 r, .int .i64 x, .int .i64 p, .slice a n c, .int .i64 0]] w fun e w' => e = .returned (.int .i64 0) ∧ Below w.heap.size w w' := by
  go_enter Try.func8, Try.ntmps8
  go_wp2_with (go_at_call 11; refine (wanting_none _ _ _ _ _ _ _ _).mono ?_; rintro e w1 ⟨rfl, hb1⟩)
  go_ret
  exact ⟨rfl, ((Below.refl _ _).alloc (Nat.le_refl _) _).trans (hb1.mono (by simp))⟩

theorem zzwanting_some (a0 : Bool) (r x p f S : Int) (a : Option Addr) (n c : Nat) (w : World) (hr : 1 ≤ r) (hr2 : r ≤ 1073741824) (hp : 0 ≤ p) (hp2 : p ≤ 1073741824) (hf : (f == 0) = false) (hS : (p + r - 1) / r = S) (hS0 : 0 ≤ S) (hS1 : S ≤ 2147483648) (hn : n ≤ 4194304) (W : Int) (hW : W = if S ≤ n then 0 else S - n) :
    Calls Try.prog 8 #[.agg #[.bool a0, .int .i64 r, .int .i64 x, .int .i64 p, .slice a n c, .int .i64 f]] w fun e w' => e = .returned (.int .i64 W) ∧ Below w.heap.size w w' := by
  have HS := hid hS
  have HW := hid hW
  clear hS hW
  go_enter Try.func8, Try.ntmps8
  go_wp2_with (go_at_call 11; refine (wanting_some _ _ _ _ _ S _ _ _ _ hr hr2 hp hp2 hf HS.out hS0 hS1 hn W HW.out).mono ?_; rintro e w1 ⟨rfl, hb1⟩)
  go_ret
  exact ⟨rfl, ((Below.refl _ _).alloc (Nat.le_refl _) _).trans (hb1.mono (by simp))⟩

end Go.Proofs.Qxb6001269a
