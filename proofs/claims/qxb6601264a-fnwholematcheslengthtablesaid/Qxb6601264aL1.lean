/-
  FnAppendThenReadElementRoundTrip (function 6): her walk.
-/
import Derived.Test.Qxb6601264aAppL
import Derived.Test.Qxb6601264aRead3
import Derived.OpenShut
namespace Go.Proofs.Qxb6601264a
open Go.RowKit Plain

/-- a slice of octets that came in -/
theorem row_hb {w : World} {a : Option Addr} {len cap : Nat} {zs : List Int}
    (h : (a = none ∧ len = 0 ∧ cap = 0 ∧ zs = []) ∨ ∃ x, a = some x ∧ len ≤ cap ∧ cap ≤ maxLen ∧ zs.length = cap ∧ (∀ i, i < zs.length → w.cell? (x.add i) = some (.int .u8 (zs.getD i 0))) ∧ ∀ n ∈ zs, (Lit.int .u8 n).wf = true) :
    HB w a (zs.take len) ∧ len = (zs.take len).length ∧ Byt (zs.take len) ∧ (a = none → len = 0 ∧ cap = 0) ∧ len ≤ maxLen := by
  rcases h with ⟨rfl, rfl, rfl, rfl⟩ | ⟨x, rfl, hl, hm, hz, hc, hw⟩
  · exact ⟨HB.nil _ _, rfl, fun i => by simp, fun _ => ⟨rfl, rfl⟩, by decide⟩
  · refine ⟨HB.take ?_ len, by simp; omega, fun i => ?_, (fun e => by cases e), Nat.le_trans hl hm⟩
    · intro h0
      obtain ⟨b, off, rfl, hcc⟩ := ints_at hc h0
      exact ⟨b, off, rfl, hcc⟩
    · have := range_u8 hw i
      rw [List.getD_eq_getElem?_getD, List.getElem?_take]
      split
      · exact this
      · simp

theorem byt_append {xs ys : List Int} (hx : Byt xs) (hy : Byt ys) : Byt (xs ++ ys) := by
  intro i
  rw [List.getD_eq_getElem?_getD, List.getElem?_append]
  split
  · exact hx i
  · exact hy _

theorem byt_hdr (tag : Int) (n : Nat) (ht : 0 ≤ tag ∧ tag ≤ 255) : Byt (hdr tag n) := by
  intro i
  by_cases hi : i < hl n
  · have b := hl_bd n
    rw [show (hdr tag n).getD i 0 = hb tag n i by simp [hdr, hi]]
    unfold hb
    split
    · exact ht
    · split
      · omega
      · split
        · omega
        · omega
  · simp [List.getElem?_eq_none (show (hdr tag n).length ≤ i by rw [length_hdr]; omega)]

theorem splice_two {α : Type} (Z X Y : List α) (h : Z.length = X.length + Y.length) : splice (splice Z 0 X) X.length Y = X ++ Y := by
  simp [splice, h]

/-- what Append wrote, and whatever behind it, is found by its header -/
theorem at_enc (tag : Int) (cs rs : List Int) : At tag (hdr tag cs.length ++ cs ++ rs) cs.length := by
  refine ⟨by simp [length_hdr], fun i hi => ?_⟩
  rw [List.append_assoc, List.getD_eq_getElem?_getD, List.getElem?_append_left (by rw [length_hdr]; exact hi)]
  simp [hdr, hi]

theorem rd_enc (tag : Int) (cs rs : List Int) (h : cs.length < 16777216) : rd tag (hdr tag cs.length ++ cs ++ rs) = some (hl cs.length, cs.length) := rd_of_at _ _ _ h (at_enc tag cs rs)

theorem rd_ne (ask : Int) (xs : List Int) (h : xs.getD 0 0 ≠ ask) : rd ask xs = none := by
  unfold rd
  by_cases h2 : xs.length < 2
  · rw [if_pos h2]
  · rw [if_neg h2, if_pos h]

theorem enc_head (tag : Int) (n : Nat) (l : List Int) : (hdr tag n ++ l).getD 0 0 = tag := by
  have b := hl_bd n
  rw [List.getD_eq_getElem?_getD, List.getElem?_append_left (by rw [length_hdr]; omega)]
  simp [hdr, hb, show 0 < hl n by omega]

theorem cell_new (w : World) (v : Value) (t : TypeId) : (w.alloc (.cells #[v] t)).cell? ⟨w.heap.size, 0, none⟩ = some v := by simp
theorem free_new (w : World) (v : Value) (t : TypeId) : (w.alloc (.cells #[v] t)).frozen? ⟨w.heap.size, 0, none⟩ = false := by simp

set_option maxRecDepth 100000 in
set_option maxHeartbeats 400000 in
theorem zz20_yes (a0 a3 : Int) (o1 o2 : Option Addr) (n1 n2 c1 c2 : Nat) (w : World) (h : n1 + n2 ≤ 1048576) :
    Calls Try.prog 20 #[.int .u8 a0, .slice o1 n1 c1, .slice o2 n2 c2, .int .u8 a3] w fun e w' => e = .returned (.bool true) ∧ w' = w := by
  go_enter Try.func20, Try.ntmps20
  go_wp2
  go_ret
  exact ⟨rfl, rfl⟩

set_option maxRecDepth 100000 in
set_option maxHeartbeats 400000 in
theorem zz20_no (a0 a3 : Int) (o1 o2 : Option Addr) (n1 n2 c1 c2 : Nat) (w : World) (h : ¬ n1 + n2 ≤ 1048576) (h1 : n1 ≤ maxLen) (h2 : n2 ≤ maxLen) :
    Calls Try.prog 20 #[.int .u8 a0, .slice o1 n1 c1, .slice o2 n2 c2, .int .u8 a3] w fun e w' => e = .returned (.bool false) ∧ w' = w := by
  unfold maxLen at h1 h2
  by_cases g1 : n1 ≤ 1048576
  · by_cases g2 : n2 ≤ 1048576
    all_goals
      go_enter Try.func20, Try.ntmps20
      go_wp2
      go_ret
      exact ⟨rfl, rfl⟩
  · go_enter Try.func20, Try.ntmps20
    go_wp2
    go_ret
    exact ⟨rfl, rfl⟩

set_option maxRecDepth 100000 in
set_option maxHeartbeats 400000 in
theorem l1_small (tag ask : Int) (co ro : Option Addr) (m r cc cr : Nat) (w : World) (hm : m ≤ maxLen) (hr : r ≤ maxLen) (h : ¬ m + r ≤ 1048576 ∨ (m + r ≤ 1048576 ∧ (524288 < m ∨ (m ≤ 524288 ∧ 524288 < r)))) :
    Calls Try.prog 6 #[.int .u8 tag, .slice co m cc, .slice ro r cr, .int .u8 ask] w fun e w' => e = .returned (.bool true) ∧ Below w.heap.size w w' := by
  rcases h with h | ⟨h, h' | ⟨h', h''⟩⟩
  · go_enter Try.func6, Try.ntmps6
    go_wp2_with (go_at_call 20; refine (zz20_no _ _ _ _ _ _ _ _ _ h hm hr).mono ?_; rintro e w' ⟨rfl, rfl⟩)
    go_ret
    exact ⟨rfl, Below.refl _ _⟩
  all_goals
    unfold maxLen at hm hr
    go_enter Try.func6, Try.ntmps6
    go_wp2_with (go_at_call 20; refine (zz20_yes _ _ _ _ _ _ _ _ _ h).mono ?_; rintro e w' ⟨rfl, rfl⟩)
    go_ret
    exact ⟨rfl, Below.refl _ _⟩

end Go.Proofs.Qxb6601264a
