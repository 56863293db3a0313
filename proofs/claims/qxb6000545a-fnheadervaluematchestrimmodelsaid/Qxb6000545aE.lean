/-
  EVENT TYPES: the contracts of isEventWordByte (29), validEventType (28), modelEventType (14).
-/
import Derived.Test.Qxb6000545aRows
import Derived.WalkKit
import Derived.WalkSpells
import Derived.WalkLawsBesides
import Derived.OpenShut
namespace Go.Proofs.Qxb6000545a
open Go.RowKit

theorem hid {p : Prop} (h : p) : Hid p := h

/-- a string's octets as numbers -/
def oct (s : ByteArray) : List Int := s.data.toList.map fun b => (b.toNat : Int)
theorem length_oct (s : ByteArray) : (oct s).length = s.size := by unfold oct; rw [List.length_map]; rfl
theorem oct_at (s : ByteArray) (k : Nat) (h : k < s.size) : ((s[k]'h).toNat : Int) = (oct s).getD k 0 := by
  have h' : k < s.data.toList.length := h
  have e : (oct s).getD k 0 = ((s.data.toList[k]'h').toNat : Int) := by
    rw [List.getD_eq_getElem?_getD, oct, List.getElem?_map, List.getElem?_eq_getElem h']
    rfl
  rw [e]
  rfl
theorem oct_bd (s : ByteArray) (k : Nat) : 0 ≤ (oct s).getD k 0 ∧ (oct s).getD k 0 ≤ 255 := by
  by_cases h : k < s.size
  · rw [← oct_at s k h]
    have := (s[k]'h).toNat_lt
    omega
  · rw [List.getD_eq_getElem?_getD, List.getElem?_eq_none (by rw [length_oct]; omega)]
    simp

/-- a word's octet -/
def Wd (c : Int) : Prop := c = 95 ∨ (48 ≤ c ∧ c ≤ 57) ∨ (97 ≤ c ∧ c ≤ 122) ∨ (65 ≤ c ∧ c ≤ 90)

theorem bytes_cell (w : World) (s : ByteArray) (cap : Nat) (fz : Nat × Nat) (j : Nat) (hj : j < s.size) : ((w.alloc (.cells (bytesRow s cap) 5 fz)).drew).cell? ⟨w.heap.size, j, none⟩ = some (.int .u8 ((oct s).getD j 0)) := by
  show (w.alloc (.cells (bytesRow s cap) 5 fz)).cell? ⟨w.heap.size, j, none⟩ = _
  rw [World.cell?_alloc_mark, bytesRow_at s _ j hj, ← oct_at s j hj]
  rfl

set_option maxRecDepth 100000 in
set_option maxHeartbeats 400000 in
theorem word_yes (c : Int) (w : World) (h : Wd c) :
    Calls Try.prog 29 #[.int .u8 c] w fun e w' => e = .returned (.bool true) ∧ w' = w := by
  rcases h with rfl | ⟨h1, h2⟩ | ⟨h1, h2⟩ | ⟨h1, h2⟩
  all_goals
    go_enter Try.func29, Try.ntmps29
    go_wp2
    go_ret
    exact ⟨rfl, rfl⟩

set_option maxRecDepth 100000 in
set_option maxHeartbeats 400000 in
theorem word_no (c : Int) (w : World) (h : ¬ Wd c) :
    Calls Try.prog 29 #[.int .u8 c] w fun e w' => e = .returned (.bool false) ∧ w' = w := by
  have h' : c < 48 ∨ (58 ≤ c ∧ c ≤ 64) ∨ (91 ≤ c ∧ c ≤ 94) ∨ c = 96 ∨ 123 ≤ c := by unfold Wd at h; omega
  clear h
  rcases h' with h1 | ⟨h1, h2⟩ | ⟨h1, h2⟩ | rfl | h1
  all_goals
    go_enter Try.func29, Try.ntmps29
    go_wp2
    go_ret
    exact ⟨rfl, rfl⟩

/-- a call that answers whether p holds, and makes memory at most -/
def Ans (p : Prop) (w : World) (e : Ending) (w' : World) : Prop := ∃ b : Bool, e = .returned (.bool b) ∧ (b = true ↔ p) ∧ Below w.heap.size w w'
theorem Ans.yes {p : Prop} {w w' : World} (h : p) (hb : Below w.heap.size w w') : Ans p w (.returned (.bool true)) w' := ⟨true, rfl, ⟨fun _ => h, fun _ => rfl⟩, hb⟩
theorem Ans.no {p : Prop} {w w' : World} (h : ¬ p) (hb : Below w.heap.size w w') : Ans p w (.returned (.bool false)) w' := ⟨false, rfl, ⟨(fun e => by cases e), fun e => absurd e h⟩, hb⟩

/-- the grammar, by places -/
def ET (xs : List Int) : Prop :=
  1 ≤ xs.length ∧ xs.length ≤ 128 ∧ xs.getD 0 0 ≠ 46 ∧ xs.getD (xs.length - 1) 0 ≠ 46 ∧
    ∀ i, i < xs.length → (xs.getD i 0 = 46 ∨ Wd (xs.getD i 0)) ∧ (xs.getD i 0 = 46 → i + 1 < xs.length → xs.getD (i + 1) 0 ≠ 46)

/-- what the scan knows ahead of place k -/
def Inv (xs : List Int) (k : Nat) (ps : Bool) : Prop :=
  (∀ i, i < k → (xs.getD i 0 = 46 ∨ Wd (xs.getD i 0)) ∧ (xs.getD i 0 = 46 → i ≠ 0 ∧ xs.getD (i - 1) 0 ≠ 46)) ∧ (ps = true ↔ (k = 0 ∨ xs.getD (k - 1) 0 = 46))

theorem inv_start (xs : List Int) : Inv xs 0 true := ⟨fun i hi => by omega, by simp⟩

theorem wd_ne {c : Int} (h : Wd c) : c ≠ 46 := by unfold Wd at h; omega

theorem inv_dot {xs : List Int} {k : Nat} (h : Inv xs k false) (hc : xs.getD k 0 = 46) : Inv xs (k + 1) true := by
  refine ⟨fun i hi => ?_, by rw [Nat.add_sub_cancel]; exact ⟨fun _ => .inr hc, fun _ => rfl⟩⟩
  by_cases hik : i = k
  · subst hik
    refine ⟨.inl hc, fun _ => ?_⟩
    have hn : ¬ (i = 0 ∨ xs.getD (i - 1) 0 = 46) := fun hh => by have := h.2.2 hh; cases this
    exact ⟨fun hh => hn (.inl hh), fun hh => hn (.inr hh)⟩
  · exact h.1 i (by omega)

theorem inv_word {xs : List Int} {k : Nat} {ps : Bool} (h : Inv xs k ps) (hc : Wd (xs.getD k 0)) : Inv xs (k + 1) false := by
  refine ⟨fun i hi => ?_, by rw [Nat.add_sub_cancel]; exact ⟨(fun hh => by cases hh), fun hh => absurd (hh.resolve_left (by omega)) (wd_ne hc)⟩⟩
  by_cases hik : i = k
  · subst hik
    exact ⟨.inr hc, fun hh => absurd hh (wd_ne hc)⟩
  · exact h.1 i (by omega)

theorem bad_dot {xs : List Int} {k : Nat} (h : Inv xs k true) (hk : k < xs.length) (hc : xs.getD k 0 = 46) : ¬ ET xs := by
  rintro ⟨_, _, h0, _, hall⟩
  rcases h.2.1 rfl with rfl | hp
  · exact h0 hc
  · by_cases hk0 : k = 0
    · subst hk0; exact h0 hc
    · have := (hall (k - 1) (by omega)).2 hp (by omega)
      rw [show k - 1 + 1 = k by omega] at this
      exact this hc

theorem bad_other {xs : List Int} {k : Nat} (hk : k < xs.length) (hc : xs.getD k 0 ≠ 46) (hw : ¬ Wd (xs.getD k 0)) : ¬ ET xs := fun h =>
  ((h.2.2.2.2 k hk).1).elim hc hw

theorem end_yes {xs : List Int} (h : Inv xs xs.length false) (h1 : 1 ≤ xs.length) (h2 : xs.length ≤ 128) : ET xs := by
  have hn : ¬ (xs.length = 0 ∨ xs.getD (xs.length - 1) 0 = 46) := fun hh => by have := h.2.2 hh; cases this
  refine ⟨h1, h2, fun h0 => ((h.1 0 (by omega)).2 h0).1 rfl, fun hh => hn (.inr hh), fun i hi => ⟨(h.1 i hi).1, fun _ hi1 hd => ?_⟩⟩
  have := ((h.1 (i + 1) hi1).2 hd).2
  rw [Nat.add_sub_cancel] at this
  exact this ‹_›

theorem end_no {xs : List Int} (h : Inv xs xs.length true) (h1 : 1 ≤ xs.length) : ¬ ET xs := by
  rintro ⟨_, _, _, hl, _⟩
  rcases h.2.1 rfl with h0 | hp
  · omega
  · exact hl hp

theorem len_no {xs : List Int} (h : xs.length = 0 ∨ 128 < xs.length) : ¬ ET xs := by
  rintro ⟨h1, h2, _⟩
  omega

end Go.Proofs.Qxb6000545a
