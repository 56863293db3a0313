/-
  THE CONTRACTS OF (*der.Data).Read (25) AND der.Whole (22).
-/
import Derived.Test.Qxb6601264aL1
namespace Go.Proofs.Qxb6601264a
open Go.RowKit Plain

set_option maxRecDepth 100000 in
set_option maxHeartbeats 400000 in
theorem rdr_no (p n c : Nat) (ao : Option Addr) (tag : Int) (xs : List Int) (w : World) (hp : w.cell? ⟨p, 0, none⟩ = some (.slice ao n c)) (hn : n = xs.length) (hx : HB w ao xs) (hnc : n ≤ c) (hnb : n ≤ 16777216) (hB : Byt xs) (hr : rd tag xs = none) :
    Calls Try.prog 25 #[.pointer (some ⟨p, 0, none⟩), .int .u8 tag] w fun e w' => e = .returned (.tuple #[.slice none 0 0, .bool false]) ∧ ∃ q, w' = w.drewN q := by
  have H := hid (read_no p n c ao tag xs w hp hn hx hnc hnb hB hr)
  clear hp hn hx hnc hnb hB hr
  go_enter Try.func25, Try.ntmps25
  go_wp2_with fail
  refine H.out.mono ?_
  rintro e w1 ⟨rfl, q, rfl⟩
  go_wp2
  go_ret2
  exact ⟨rfl, q, rfl⟩

/-- what an accepted Read leaves -/
def Took2 (p h m n : Nat) (xs : List Int) (w : World) (e : Ending) (w' : World) : Prop :=
  ∃ a2 a3 c2 c3, e = .returned (.tuple #[.slice a2 m c2, .bool true]) ∧ HB w' a2 ((xs.drop h).take m) ∧ w'.cell? ⟨p, 0, none⟩ = some (.slice a3 (n - h - m) c3) ∧ Below p w w'

set_option maxRecDepth 100000 in
set_option maxHeartbeats 400000 in
theorem rdr_yes (p n c : Nat) (ao : Option Addr) (tag : Int) (xs : List Int) (w : World) (hp : w.cell? ⟨p, 0, none⟩ = some (.slice ao n c)) (hf : w.frozen? ⟨p, 0, none⟩ = false) (hn : n = xs.length) (hx : HB w ao xs) (hnc : n ≤ c) (hnb : n ≤ 16777216) (hB : Byt xs)
    (h m : Nat) (hr : rd tag xs = some (h, m)) :
    Calls Try.prog 25 #[.pointer (some ⟨p, 0, none⟩), .int .u8 tag] w (Took2 p h m n xs w) := by
  have H := hid (read_yes p n c ao tag xs w hp hf hn hx hnc hnb hB h m hr)
  clear hp hf hn hx hnc hnb hB hr
  go_enter Try.func25, Try.ntmps25
  go_wp2_with fail
  refine H.out.mono ?_
  rintro e w1 ⟨a1, a2, a3, c1, c2, c3, rfl, h1, h2, h3, hcell, _, _, hb, _⟩
  have K2 := hid h2
  have KC := hid hcell
  clear h1 h2 h3 hcell
  go_wp2
  go_ret2
  exact ⟨a2, a3, c2, c3, rfl, K2.out, KC.out, hb⟩

set_option maxRecDepth 100000 in
set_option maxHeartbeats 400000 in
/-- Whole refuses: no element at the front -/
theorem whole_none (n c : Nat) (ao : Option Addr) (tag : Int) (xs : List Int) (w : World) (hn : n = xs.length) (hx : HB w ao xs) (hnc : n ≤ c) (hnb : n ≤ 16777216) (hB : Byt xs) (hr : rd tag xs = none) :
    Calls Try.prog 22 #[.slice ao n c, .int .u8 tag] w fun e w' => e = .returned (.tuple #[.slice none 0 0, .bool false]) ∧ Below w.heap.size w w' := by
  have HN := hid hn
  have HX := hid hx
  have HB0 := hid hB
  have HR := hid hr
  clear hn hx hB hr
  go_enter Try.func22, Try.ntmps22
  go_wp2_with fail
  refine (rdr_no w.heap.size n c ao tag xs _ (cell_new _ _ _) HN.out (HX.out.below (below_alloc (Below.refl _ _) (Nat.le_refl _) _)) hnc hnb HB0.out HR.out).mono ?_
  rintro e w1 ⟨rfl, q, rfl⟩
  go_wp2
  go_ret2
  exact ⟨rfl, below_drewN (below_alloc (Below.refl _ _) (Nat.le_refl _) _) _⟩

set_option maxRecDepth 100000 in
set_option maxHeartbeats 400000 in
/-- Whole refuses: something stands behind the element -/
theorem whole_more (n c : Nat) (ao : Option Addr) (tag : Int) (xs : List Int) (w : World) (hn : n = xs.length) (hx : HB w ao xs) (hnc : n ≤ c) (hnb : n ≤ 16777216) (hB : Byt xs) (h m : Nat) (hr : rd tag xs = some (h, m)) (hmore : h + m < n) :
    Calls Try.prog 22 #[.slice ao n c, .int .u8 tag] w fun e w' => e = .returned (.tuple #[.slice none 0 0, .bool false]) ∧ Below w.heap.size w w' := by
  have HN := hid hn
  have HX := hid hx
  have HB0 := hid hB
  have HR := hid hr
  clear hn hx hB hr
  go_enter Try.func22, Try.ntmps22
  go_wp2_with fail
  refine (rdr_yes w.heap.size n c ao tag xs _ (cell_new _ _ _) (free_new _ _ _) HN.out (HX.out.below (below_alloc (Below.refl _ _) (Nat.le_refl _) _)) hnc hnb HB0.out h m HR.out).mono ?_
  rintro e w1 ⟨a2, a3, c2, c3, rfl, h2, hcell, hb⟩
  obtain ⟨r, hr⟩ : ∃ r, r = n - h - m := ⟨_, rfl⟩
  rw [← hr] at hcell
  have hr0 : ((r : Int) != 0) = true := by simp; omega
  clear h2 hr
  go_wp2
  go_ret2
  exact ⟨rfl, (below_alloc (Below.refl _ _) (Nat.le_refl _) _).trans hb⟩

set_option maxRecDepth 100000 in
set_option maxHeartbeats 400000 in
/-- Whole accepts: the element is all -/
theorem whole_yes (n c : Nat) (ao : Option Addr) (tag : Int) (xs : List Int) (w : World) (hn : n = xs.length) (hx : HB w ao xs) (hnc : n ≤ c) (hnb : n ≤ 16777216) (hB : Byt xs) (h m : Nat) (hr : rd tag xs = some (h, m)) (hall : h + m = n) :
    Calls Try.prog 22 #[.slice ao n c, .int .u8 tag] w fun e w' => ∃ a2 c2, e = .returned (.tuple #[.slice a2 m c2, .bool true]) ∧ HB w' a2 (xs.drop h) ∧ Below w.heap.size w w' := by
  have HN := hid hn
  have HX := hid hx
  have HB0 := hid hB
  have HR := hid hr
  have HA := hid hall
  clear hn hx hB hr hall
  go_enter Try.func22, Try.ntmps22
  go_wp2_with fail
  refine (rdr_yes w.heap.size n c ao tag xs _ (cell_new _ _ _) (free_new _ _ _) HN.out (HX.out.below (below_alloc (Below.refl _ _) (Nat.le_refl _) _)) hnc hnb HB0.out h m HR.out).mono ?_
  rintro e w1 ⟨a2, a3, c2, c3, rfl, h2, hcell, hb⟩
  rw [show n - h - m = 0 by have := HA.out; omega] at hcell
  have H2 := hid h2
  clear h2
  go_wp2
  go_ret2
  refine ⟨a2, c2, rfl, ?_, (below_alloc (Below.refl _ _) (Nat.le_refl _) _).trans hb⟩
  have h3 := H2.out
  rwa [List.take_of_length_le (by rw [List.length_drop, ← HN.out]; have := HA.out; omega)] at h3

end Go.Proofs.Qxb6601264a
