/-
  THE CONTRACT OF (*der.Data).ReadElement (function 14).
-/
import Derived.Test.Qxb6601264aMem
namespace Go.Proofs.Qxb6601264a
open Go.RowKit Plain

theorem setCell_drewN2 (w : World) (a : Addr) (v : Value) (n m : Nat) : ((w.drewN n).setCell a v).drewN m = (w.setCell a v).drewN (n + m) := by
  simp [World.setCell, World.drewN, Nat.add_assoc]

theorem i64_or_nat (a b : Nat) (ha : a < 4294967296) (hb : b < 4294967296) : bits .or .i64 (a : Int) (b : Int) = ((a ||| b : Nat) : Int) := by
  have hx : a ||| b < 2 ^ 32 := Nat.or_lt_two_pow (by omega) (by omega)
  show IntKind.i64.wrap ((BitVec.ofInt 64 (a : Int) ||| BitVec.ofInt 64 (b : Int)).toNat : Int) = _
  rw [BitVec.toNat_or, ofInt_u64 a (by omega), ofInt_u64 b (by omega), IntKind.wrap_i64]
  omega

theorem i64_and_nat (a b : Nat) (ha : a < 4294967296) (hb : b < 4294967296) : bits .and .i64 (a : Int) (b : Int) = ((a &&& b : Nat) : Int) := by
  have hx : a &&& b < 2 ^ 32 := Nat.and_lt_two_pow _ (by omega)
  show IntKind.i64.wrap ((BitVec.ofInt 64 (a : Int) &&& BitVec.ofInt 64 (b : Int)).toNat : Int) = _
  rw [BitVec.toNat_and, ofInt_u64 a (by omega), ofInt_u64 b (by omega), IntKind.wrap_i64]
  omega

/-- 'x & 127' of an octet from 128 on -/
theorem and127 (y : Int) (h0 : 128 ≤ y) (h1 : y ≤ 255) : bits .and .i64 y 127 = y - 128 := by
  obtain ⟨Y, rfl⟩ := Int.eq_ofNat_of_zero_le (show 0 ≤ y by omega)
  have e := i64_and_nat Y 127 (by omega) (by omega)
  rw [nat_mask7] at e
  refine e.trans ?_
  omega

/-- 'x << 8 | y' -/
theorem or256 (x y : Int) (h0 : 0 ≤ x) (h1 : x ≤ 65535) (h2 : 0 ≤ y) (h3 : y ≤ 255) : bits .or .i64 (x * 256) y = x * 256 + y := by
  obtain ⟨X, rfl⟩ := Int.eq_ofNat_of_zero_le h0
  obtain ⟨Y, rfl⟩ := Int.eq_ofNat_of_zero_le h2
  have e := i64_or_nat (X * 256) Y (by omega) (by omega)
  rw [nat_join 8 (X * 256) Y (by omega) (by omega)] at e
  simpa using e

set_option maxRecDepth 100000 in
set_option maxHeartbeats 400000 in
theorem read_len (p n c : Nat) (ao : Option Addr) (tag : Int) (w : World) (hp : w.cell? ⟨p, 0, none⟩ = some (.slice ao n c)) (hn : n < 2) :
    Calls Try.prog 14 #[.pointer (some ⟨p, 0, none⟩), .int .u8 tag] w fun e w' => e = .returned (.tuple #[.slice none 0 0, .slice none 0 0, .bool false]) ∧ ∃ q, w' = w.drewN q := by
  go_enter Try.func14, Try.ntmps14
  go_wp2
  go_ret3
  exact ⟨rfl, 0, rfl⟩

set_option maxRecDepth 100000 in
set_option maxHeartbeats 400000 in
theorem read_tag (p n c b off : Nat) (tag y0 : Int) (w : World) (hp : w.cell? ⟨p, 0, none⟩ = some (.slice (some ⟨b, off, none⟩) n c)) (hn : 2 ≤ n)
    (e0 : w.cell? ⟨b, off, none⟩ = some (.int .u8 y0)) (ht : (y0 != tag) = true) :
    Calls Try.prog 14 #[.pointer (some ⟨p, 0, none⟩), .int .u8 tag] w fun e w' => e = .returned (.tuple #[.slice none 0 0, .slice none 0 0, .bool false]) ∧ ∃ q, w' = w.drewN q := by
  go_enter Try.func14, Try.ntmps14
  go_wp2
  go_ret3
  exact ⟨rfl, 0, rfl⟩

set_option maxRecDepth 100000 in
set_option maxHeartbeats 400000 in
theorem read_short_no (p n c b off : Nat) (tag y1 : Int) (w : World) (hp : w.cell? ⟨p, 0, none⟩ = some (.slice (some ⟨b, off, none⟩) n c)) (hn : 2 ≤ n) (hnb : n ≤ 16777216)
    (e0 : w.cell? ⟨b, off, none⟩ = some (.int .u8 tag)) (e1 : w.cell? ⟨b, off + 1, none⟩ = some (.int .u8 y1)) (h0 : 0 ≤ y1) (h1 : y1 < 128) (h2 : (n : Int) - 2 < y1) :
    Calls Try.prog 14 #[.pointer (some ⟨p, 0, none⟩), .int .u8 tag] w fun e w' => e = .returned (.tuple #[.slice none 0 0, .slice none 0 0, .bool false]) ∧ ∃ q, w' = w.drewN q := by
  have hn1 : (1 : Int) < n := by omega
  go_enter Try.func14, Try.ntmps14
  go_wp2
  go_quiet (fail)
  go_wp2
  all_goals go_ret3
  all_goals exact ⟨rfl, _, rfl⟩

set_option maxRecDepth 100000 in
set_option maxHeartbeats 400000 in
theorem read_short_yes (p n c b off m : Nat) (tag : Int) (w : World) (hp : w.cell? ⟨p, 0, none⟩ = some (.slice (some ⟨b, off, none⟩) n c)) (hf : w.frozen? ⟨p, 0, none⟩ = false) (hn : 2 ≤ n) (hnc : n ≤ c) (hnb : n ≤ 16777216)
    (e0 : w.cell? ⟨b, off, none⟩ = some (.int .u8 tag)) (e1 : w.cell? ⟨b, off + 1, none⟩ = some (.int .u8 (m : Int))) (h1 : m < 128) (h2 : m + 2 ≤ n) :
    Calls Try.prog 14 #[.pointer (some ⟨p, 0, none⟩), .int .u8 tag] w fun e w' => ∃ a1 a2 a3 n1 n2 n3 c1 c2 c3, e = .returned (.tuple #[.slice a1 n1 c1, .slice a2 n2 c2, .bool true]) ∧ n1 = 2 + m ∧ n2 = m ∧ n3 = n - 2 - m ∧
      (0 < n1 → a1 = some ⟨b, off, none⟩) ∧ (0 < n2 → a2 = some ⟨b, off + 2, none⟩) ∧ (0 < n3 → a3 = some ⟨b, off + 2 + m, none⟩) ∧ n3 ≤ c3 ∧ ∃ q, w' = (w.setCell ⟨p, 0, none⟩ (.slice a3 n3 c3)).drewN q := by
  have hn1 : (1 : Int) < n := by omega
  by_cases hc2 : c = 2
  · obtain rfl : n = 2 := by omega
    obtain rfl : m = 0 := by omega
    subst hc2
    go_enter Try.func14, Try.ntmps14
    go_wp2
    go_quiet (fail)
    go_wp2
    go_quiet (fail)
    go_wp2
    go_ret3
    refine ⟨_, _, _, _, _, _, _, _, _, rfl, ?_, ?_, ?_, ?_, ?_, ?_, ?_, _, setCell_drewN2 _ _ _ _ _⟩
    all_goals first | omega | (intro h; first | rfl | omega)
  · by_cases hcm : c - 2 = m
    · obtain rfl : c = m + 2 := by omega
      have hm0 : 0 < m := by omega
      clear hcm
      go_enter Try.func14, Try.ntmps14
      go_wp2
      go_quiet (fail)
      go_wp2
      go_quiet (fail)
      go_wp2
      go_ret3
      refine ⟨_, _, _, _, _, _, _, _, _, rfl, ?_, ?_, ?_, ?_, ?_, ?_, ?_, _, setCell_drewN2 _ _ _ _ _⟩
      all_goals first | omega | (intro h; first | rfl | omega)
    · go_enter Try.func14, Try.ntmps14
      go_wp2
      go_quiet (fail)
      go_wp2
      go_quiet (fail)
      go_wp2
      go_ret3
      refine ⟨_, _, _, _, _, _, _, _, _, rfl, ?_, ?_, ?_, ?_, ?_, ?_, ?_, _, setCell_drewN2 _ _ _ _ _⟩
      all_goals first | omega | (intro h; first | rfl | omega)

set_option maxRecDepth 100000 in
set_option maxHeartbeats 400000 in
/-- the long form, its count of octets 0, or above 3, or beyond the end -/
theorem read_long_no1 (p n c b off : Nat) (tag y1 k : Int) (w : World) (hp : w.cell? ⟨p, 0, none⟩ = some (.slice (some ⟨b, off, none⟩) n c)) (hn : 2 ≤ n) (hnb : n ≤ 16777216)
    (e0 : w.cell? ⟨b, off, none⟩ = some (.int .u8 tag)) (e1 : w.cell? ⟨b, off + 1, none⟩ = some (.int .u8 y1)) (h1 : 128 ≤ y1) (h1' : y1 ≤ 255) (hk : bits .and .i64 y1 127 = k) (hno : k = 0 ∨ 3 < k ∨ (0 < k ∧ k ≤ 3 ∧ (n : Int) - 2 < k)) :
    Calls Try.prog 14 #[.pointer (some ⟨p, 0, none⟩), .int .u8 tag] w fun e w' => e = .returned (.tuple #[.slice none 0 0, .slice none 0 0, .bool false]) ∧ ∃ q, w' = w.drewN q := by
  have hn1 : (1 : Int) < n := by omega
  rcases hno with rfl | hno | ⟨hk0, hk3, hno⟩
  all_goals
    go_enter Try.func14, Try.ntmps14
    go_wp2
    go_quiet (fail)
    go_wp2
    all_goals go_ret3
    all_goals exact ⟨rfl, _, rfl⟩

set_option maxRecDepth 100000 in
set_option maxHeartbeats 400000 in
/-- the long form with a leading zero -/
theorem read_long_no2 (p n c b off : Nat) (tag y1 k : Int) (w : World) (hp : w.cell? ⟨p, 0, none⟩ = some (.slice (some ⟨b, off, none⟩) n c)) (hn : 2 < n) (hnc : n ≤ c) (hnb : n ≤ 16777216)
    (e0 : w.cell? ⟨b, off, none⟩ = some (.int .u8 tag)) (e1 : w.cell? ⟨b, off + 1, none⟩ = some (.int .u8 y1)) (h1 : 128 ≤ y1) (h1' : y1 ≤ 255) (hk : bits .and .i64 y1 127 = k) (hk0 : 0 < k) (hk3 : k ≤ 3) (hkn : k ≤ (n : Int) - 2)
    (e2 : w.cell? ⟨b, off + 2, none⟩ = some (.int .u8 0)) :
    Calls Try.prog 14 #[.pointer (some ⟨p, 0, none⟩), .int .u8 tag] w fun e w' => e = .returned (.tuple #[.slice none 0 0, .slice none 0 0, .bool false]) ∧ ∃ q, w' = w.drewN q := by
  have hn1 : (1 : Int) < n := by omega
  have hc2 : ¬ c = 2 := by omega
  go_enter Try.func14, Try.ntmps14
  go_wp2
  go_quiet (fail)
  go_wp2
  go_ret3
  exact ⟨rfl, _, rfl⟩

end Go.Proofs.Qxb6601264a
