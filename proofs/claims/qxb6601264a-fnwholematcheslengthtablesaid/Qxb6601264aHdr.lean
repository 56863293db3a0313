/-
  THE CONTRACTS OF hdrLen (12), hdrByte (19), headerAt (13).
-/
import Derived.Test.Qxb6601264aMem
namespace Go.Proofs.Qxb6601264a
open Go.RowKit Plain

theorem ret_int {k : IntKind} {a b : Int} (h : a = b) : Ending.returned (.int k a) = .returned (.int k b) := by rw [h]

set_option maxRecDepth 100000 in
set_option maxHeartbeats 400000 in
theorem hdrLen_int (x h : Int) (w : World) (key : (x < 128 ∧ h = 2) ∨ (128 ≤ x ∧ x < 256 ∧ h = 3) ∨ (256 ≤ x ∧ x < 65536 ∧ h = 4) ∨ (65536 ≤ x ∧ h = 5)) :
    Calls Try.prog 12 #[.int .i64 x] w fun e w' => e = .returned (.int .i64 h) ∧ w' = w := by
  rcases key with ⟨h1, rfl⟩ | ⟨h0, h1, rfl⟩ | ⟨h0, h1, rfl⟩ | ⟨h0, rfl⟩
  all_goals
    go_enter Try.func12, Try.ntmps12
    go_wp2
    go_ret
    exact ⟨rfl, rfl⟩

/-- hdrLen: the table -/
theorem hdrLen_any (n : Nat) (w : World) : Calls Try.prog 12 #[.int .i64 (n : Int)] w fun e w' => e = .returned (.int .i64 ((hl n : Nat) : Int)) ∧ w' = w := by
  refine hdrLen_int n _ w ?_
  unfold hl
  by_cases h1 : n < 128
  · rw [if_pos h1]; exact .inl ⟨by omega, rfl⟩
  · rw [if_neg h1]
    by_cases h2 : n < 256
    · rw [if_pos h2]; exact .inr (.inl ⟨by omega, by omega, rfl⟩)
    · rw [if_neg h2]
      by_cases h3 : n < 65536
      · rw [if_pos h3]; exact .inr (.inr (.inl ⟨by omega, by omega, rfl⟩))
      · rw [if_neg h3]; exact .inr (.inr (.inr ⟨by omega, rfl⟩))

set_option maxRecDepth 100000 in
set_option maxHeartbeats 400000 in
theorem hb_first (tag : Int) (n : Nat) (w : World) :
    Calls Try.prog 19 #[.int .u8 tag, .int .i64 (n : Int), .int .i64 0] w fun e w' => e = .returned (.int .u8 tag) ∧ w' = w := by
  go_enter Try.func19, Try.ntmps19
  go_wp2_with (go_at_call 12; refine (hdrLen_any _ _).mono ?_; rintro e w' ⟨rfl, rfl⟩)
  go_ret
  exact ⟨rfl, rfl⟩

set_option maxRecDepth 100000 in
set_option maxHeartbeats 400000 in
theorem hb_short (tag : Int) (n i : Nat) (w : World) (hn : n < 128) (hi : 0 < i) :
    Calls Try.prog 19 #[.int .u8 tag, .int .i64 (n : Int), .int .i64 (i : Int)] w fun e w' => e = .returned (.int .u8 (n : Int)) ∧ w' = w := by
  have e : hl n = 2 := by simp [hl, hn]
  go_enter Try.func19, Try.ntmps19
  go_wp2_with (go_at_call 12; refine (hdrLen_any _ _).mono ?_; rw [e]; rintro e w' ⟨rfl, rfl⟩)
  go_ret
  exact ⟨rfl, rfl⟩

set_option maxRecDepth 100000 in
set_option maxHeartbeats 400000 in
theorem hb_count (tag : Int) (n h : Nat) (w : World) (hn : hl n = h) (hh : h = 3 ∨ h = 4 ∨ h = 5) :
    Calls Try.prog 19 #[.int .u8 tag, .int .i64 (n : Int), .int .i64 1] w fun e w' => e = .returned (.int .u8 ((126 + h : Nat) : Int)) ∧ w' = w := by
  have HN := hid hn
  clear hn
  rcases hh with rfl | rfl | rfl
  all_goals
    go_enter Try.func19, Try.ntmps19
    go_wp2_with (go_at_call 12; refine (hdrLen_any _ _).mono ?_; rw [HN.out]; rintro e w' ⟨rfl, rfl⟩)
    go_ret
    exact ⟨rfl, rfl⟩

set_option maxRecDepth 100000 in
set_option maxHeartbeats 400000 in
theorem hb_rest (tag : Int) (n h i : Nat) (w : World) (hn : hl n = h) (hb : n < 16777216) (hh : (h = 3 ∧ i = 2) ∨ (h = 4 ∧ i = 2) ∨ (h = 4 ∧ i = 3) ∨ (h = 5 ∧ i = 2) ∨ (h = 5 ∧ i = 3) ∨ (h = 5 ∧ i = 4)) :
    Calls Try.prog 19 #[.int .u8 tag, .int .i64 (n : Int), .int .i64 (i : Int)] w fun e w' => e = .returned (.int .u8 ((n / 256 ^ (h - 1 - i) % 256 : Nat) : Int)) ∧ w' = w := by
  have HN := hid hn
  clear hn
  rcases hh with ⟨rfl, rfl⟩ | ⟨rfl, rfl⟩ | ⟨rfl, rfl⟩ | ⟨rfl, rfl⟩ | ⟨rfl, rfl⟩ | ⟨rfl, rfl⟩
  all_goals
    go_enter Try.func19, Try.ntmps19
    go_wp2_with (go_at_call 12; refine (hdrLen_any _ _).mono ?_; rw [HN.out]; rintro e w' ⟨rfl, rfl⟩)
    go_ret
    exact ⟨ret_int (by simp only [Nat.reducePow]; omega), rfl⟩

/-- hdrByte: the octet of the table -/
theorem hdrByte_any (tag : Int) (n i : Nat) (w : World) (hn : n < 16777216) (hi : i < hl n) :
    Calls Try.prog 19 #[.int .u8 tag, .int .i64 (n : Int), .int .i64 (i : Int)] w fun e w' => e = .returned (.int .u8 (hb tag n i)) ∧ w' = w := by
  unfold hb
  by_cases h0 : i = 0
  · subst h0
    rw [if_pos rfl]
    exact hb_first tag n w
  rw [if_neg h0]
  by_cases h1 : n < 128
  · rw [if_pos h1]
    exact hb_short tag n i w h1 (by omega)
  rw [if_neg h1]
  have hh : hl n = 3 ∨ hl n = 4 ∨ hl n = 5 := by
    unfold hl
    rw [if_neg h1]
    by_cases h2 : n < 256
    · rw [if_pos h2]; exact .inl rfl
    · rw [if_neg h2]
      by_cases h3 : n < 65536
      · rw [if_pos h3]; exact .inr (.inl rfl)
      · rw [if_neg h3]; exact .inr (.inr rfl)
  by_cases h2 : i = 1
  · subst h2
    rw [if_pos rfl]
    rw [show 128 + (hl n - 2) = 126 + hl n by omega]
    exact hb_count tag n _ w rfl hh
  rw [if_neg h2]
  exact hb_rest tag n _ i w rfl hn (by omega)

/-- the header of n octets stands at the front -/
def Pre (tag : Int) (xs : List Int) (n : Nat) : Prop := hl n ≤ xs.length ∧ ∀ i, i < hl n → xs.getD i 0 = hb tag n i

set_option maxRecDepth 100000 in
set_option maxHeartbeats 1000000 in
/-- headerAt: whether the header stands at the front -/
theorem headerAt_any (a : Option Addr) (c : Nat) (tag : Int) (n : Nat) (xs : List Int) (L : Nat) (hL : L = xs.length) (w : World) (hx : HB w a xs) (hLb : L ≤ 16777216) (hn : n < 16777216) :
    Calls Try.prog 13 #[.slice a L c, .int .u8 tag, .int .i64 (n : Int)] w fun e w' => ∃ b : Bool, e = .returned (.bool b) ∧ (b = true ↔ Pre tag xs n) ∧ ∃ q, w' = w.drewN q := by
  have HL := hid hL
  have HH := hid (hl_bd n)
  obtain ⟨h, hh⟩ : ∃ h, h = hl n := ⟨_, rfl⟩
  have Hh := hid hh
  have HX := hid hx
  clear hL hh hx
  by_cases hlt : L < h
  · go_enter Try.func13, Try.ntmps13
    go_wp2_with (go_at_call 12; refine (hdrLen_any _ _).mono ?_; rw [← Hh.out]; rintro e w' ⟨rfl, rfl⟩)
    go_ret
    refine ⟨_, rfl, ⟨(fun e => by cases e), fun e => ?_⟩, 0, rfl⟩
    have h1 := e.1; have h2 := HL.out; have h3 := Hh.out
    omega
  · obtain ⟨b, off, ea, hc⟩ := HX.out (by have h1 := HL.out; have h2 := HH.out; have h3 := Hh.out; omega)
    subst ea
    have HC := hid hc
    clear hc HX
    have hhb : 0 < h ∧ h ≤ 5 := by have h2 := HH.out; have h3 := Hh.out; omega
    go_enter Try.func13, Try.ntmps13
    go_wp2_with (go_at_call 12; refine (hdrLen_any _ _).mono ?_; rw [← Hh.out]; rintro e w' ⟨rfl, rfl⟩)
    go_loopw [8] (fun i wr => ∃ k q : Nat, k ≤ h ∧ i = .int .i64 (k : Int) ∧ wr = w'.drewN q ∧ Hid (∀ j, j < k → xs.getD j 0 = hb tag n j)) (fun i _ => h - (intOf i).toNat)
    case atStart => exact ⟨0, 0, Nat.zero_le _, rfl, rfl, fun j hj => by omega⟩
    case round =>
      obtain ⟨k, q, hk, rfl, hwr, HP⟩ := hrel
      have HWR := hid hwr
      by_cases hkl : k < h
      · have ec : wr.cell? ⟨b, off + k, none⟩ = some (.int .u8 (xs.getD k 0)) := by rw [hwr]; exact HC.out k (by have h1 := HL.out; omega)
        clear hwr
        have hkL : k < L := by omega
        have hby := fun W => hdrByte_any tag n k W hn (by rw [← Hh.out]; exact hkl)
        obtain ⟨z, hz⟩ : ∃ z, z = xs.getD k 0 := ⟨_, rfl⟩
        obtain ⟨y, hy⟩ : ∃ y, y = hb tag n k := ⟨_, rfl⟩
        rw [← hz] at ec
        rw [← hy] at hby
        have HZ := hid hz
        have HY := hid hy
        have HBY := hid hby
        clear hz hy hby
        by_cases he : z = y
        · subst he
          go_wp2
          go_quiet ((go_at_call 19; exact Calls.quiet_of_same (HBY.out _)))
          go_wp2
          go_roundw
          case rel =>
            refine ⟨k + 1, _, by omega, by go_num, by rw [HWR.out, World.drewN_drewN], fun j hj => ?_⟩
            by_cases hjk : j = k
            · subst hjk; rw [← HZ.out]; exact HY.out
            · exact HP.out j (by omega)
          case measure => simp [intOf]; omega
        · have he' : (z != y) = true := by simpa using he
          go_wp2
          go_quiet ((go_at_call 19; exact Calls.quiet_of_same (HBY.out _)))
          go_wp2
          go_ret
          refine ⟨_, rfl, ⟨(fun e => by cases e), fun e => ?_⟩, _, by rw [HWR.out, World.drewN_drewN]⟩
          exact absurd (e.2 k (by rw [← Hh.out]; exact hkl)) (by rw [← HZ.out, ← HY.out]; exact he)
      · clear hwr
        go_wp2
        go_ret
        refine ⟨_, rfl, ⟨fun _ => ⟨by rw [← HL.out, ← Hh.out]; omega, fun j hj => HP.out j (by rw [← Hh.out] at hj; omega)⟩, fun _ => rfl⟩, _, HWR.out⟩

end Go.Proofs.Qxb6601264a
