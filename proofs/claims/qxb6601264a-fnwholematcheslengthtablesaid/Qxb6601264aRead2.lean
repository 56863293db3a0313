/-
  ReadElement (function 14): the long form.
-/
import Derived.Test.Qxb6601264aRead
namespace Go.Proofs.Qxb6601264a
open Go.RowKit Plain

theorem V_bd (V Z : Nat → Int) (hZ : ∀ j, 0 ≤ Z j ∧ Z j ≤ 255) (hV0 : V 0 = 0) (hV : ∀ j, V (j + 1) = V j * 256 + Z j) : ∀ j, j < 3 → 0 ≤ V j ∧ V j ≤ 65535 := by
  have v1 := hV 0
  have v2 := hV 1
  have z0 := hZ 0
  have z1 := hZ 1
  intro j hj
  match j, hj with
  | 0, _ => omega
  | 1, _ => simp only [Nat.zero_add] at v1; omega
  | 2, _ => simp only [Nat.zero_add, Nat.reduceAdd] at v1 v2; omega

set_option maxRecDepth 100000 in
set_option maxHeartbeats 400000 in
/-- the long form: the number is one that the short form holds, or the contents run beyond the end -/
theorem read_long_no3 (p n c b off k : Nat) (tag y1 : Int) (V Z : Nat → Int) (w : World) (hp : w.cell? ⟨p, 0, none⟩ = some (.slice (some ⟨b, off, none⟩) n c)) (hnc : n ≤ c) (hnb : n ≤ 16777216)
    (e0 : w.cell? ⟨b, off, none⟩ = some (.int .u8 tag)) (e1 : w.cell? ⟨b, off + 1, none⟩ = some (.int .u8 y1)) (h1 : 128 ≤ y1) (h1' : y1 ≤ 255) (hk : bits .and .i64 y1 127 = (k : Int)) (hk0 : 0 < k) (hk3 : k ≤ 3) (hkn : k + 2 ≤ n)
    (ez : ∀ j, j < k → w.cell? ⟨b, off + 2 + j, none⟩ = some (.int .u8 (Z j))) (hz : (Z 0 == 0) = false) (hZ : ∀ j, 0 ≤ Z j ∧ Z j ≤ 255) (hV0 : V 0 = 0) (hV : ∀ j, V (j + 1) = V j * 256 + Z j)
    (hno : V k < 128 ∨ (128 ≤ V k ∧ (n : Int) - 2 - k < V k)) :
    Calls Try.prog 14 #[.pointer (some ⟨p, 0, none⟩), .int .u8 tag] w fun e w' => e = .returned (.tuple #[.slice none 0 0, .slice none 0 0, .bool false]) ∧ ∃ q, w' = w.drewN q := by
  have hn1 : (1 : Int) < n := by omega
  have hc2 : ¬ c = 2 := by omega
  have ez0 := ez 0 hk0
  simp only [Nat.add_zero] at ez0
  have hkz : ((k : Int) == 0) = false := by simp; omega
  have HVB := hid (V_bd V Z hZ hV0 hV)
  have HV0 := hid hV0
  have HV := hid hV
  have EZ := hid ez
  have HZ := hid hZ
  clear hV0 hV ez hZ
  go_enter Try.func14, Try.ntmps14
  go_wp2
  go_quiet (fail)
  go_wp2
  go_loop [9, 12, 59] (fun l _ i => ∃ j : Nat, j ≤ k ∧ i = .int .i64 (j : Int) ∧ l = .int .i64 (V j)) (fun _ _ i => k - (intOf i).toNat)
  case atStart => exact ⟨0, Nat.zero_le _, rfl, by rw [HV0.out]⟩
  case round =>
    obtain ⟨j, hj, rfl, rfl⟩ := hrel
    by_cases hlt : j < k
    · have ej := EZ.out j hlt
      have hz1 := HZ.out j
      have hvb := HVB.out j (by omega)
      go_wp2
      go_round
      case rel => exact ⟨j + 1, by omega, by go_num, by rw [HV.out j, or256 _ _ hvb.1 hvb.2 hz1.1 hz1.2]⟩
      case measure => simp [intOf]; omega
    · obtain rfl : j = k := by omega
      rcases hno with hno | ⟨hno1, hno2⟩
      · go_wp2
        go_ret3
        exact ⟨rfl, _, rfl⟩
      · go_wp2
        all_goals go_ret3
        all_goals exact ⟨rfl, _, rfl⟩

set_option maxRecDepth 100000 in
set_option maxHeartbeats 400000 in
theorem read_long_yes (p n c b off k : Nat) (tag y1 : Int) (V Z : Nat → Int) (w : World) (hp : w.cell? ⟨p, 0, none⟩ = some (.slice (some ⟨b, off, none⟩) n c)) (hf : w.frozen? ⟨p, 0, none⟩ = false) (hnc : n ≤ c) (hnb : n ≤ 16777216)
    (e0 : w.cell? ⟨b, off, none⟩ = some (.int .u8 tag)) (e1 : w.cell? ⟨b, off + 1, none⟩ = some (.int .u8 y1)) (h1 : 128 ≤ y1) (h1' : y1 ≤ 255) (hk : bits .and .i64 y1 127 = (k : Int)) (hk0 : 0 < k) (hk3 : k ≤ 3) (hkn : k + 2 ≤ n)
    (ez : ∀ j, j < k → w.cell? ⟨b, off + 2 + j, none⟩ = some (.int .u8 (Z j))) (hz : (Z 0 == 0) = false) (hZ : ∀ j, 0 ≤ Z j ∧ Z j ≤ 255) (hV0 : V 0 = 0) (hV : ∀ j, V (j + 1) = V j * 256 + Z j)
    (m : Nat) (hVm : V k = (m : Int)) (hm1 : 128 ≤ m) (hm2 : 2 + k + m ≤ n) :
    Calls Try.prog 14 #[.pointer (some ⟨p, 0, none⟩), .int .u8 tag] w fun e w' => ∃ a1 a2 a3 n1 n2 n3 c1 c2 c3, e = .returned (.tuple #[.slice a1 n1 c1, .slice a2 n2 c2, .bool true]) ∧ n1 = 2 + k + m ∧ n2 = m ∧ n3 = n - (2 + k) - m ∧
      (0 < n1 → a1 = some ⟨b, off, none⟩) ∧ (0 < n2 → a2 = some ⟨b, off + 2 + k, none⟩) ∧ (0 < n3 → a3 = some ⟨b, off + 2 + k + m, none⟩) ∧ n3 ≤ c3 ∧ ∃ q, w' = (w.setCell ⟨p, 0, none⟩ (.slice a3 n3 c3)).drewN q := by
  have hn1 : (1 : Int) < n := by omega
  have hc2 : ¬ c = 2 := by omega
  have ez0 := ez 0 hk0
  simp only [Nat.add_zero] at ez0
  have hkz : ((k : Int) == 0) = false := by simp; omega
  have HVB := hid (V_bd V Z hZ hV0 hV)
  have HV0 := hid hV0
  have HV := hid hV
  have EZ := hid ez
  have HZ := hid hZ
  clear hV0 hV ez hZ
  have HVM := hid hVm
  clear hVm
  have hck : ¬ c - 2 = k := by omega
  go_enter Try.func14, Try.ntmps14
  go_wp2
  go_quiet (fail)
  go_wp2
  go_loop [9, 12, 59] (fun l _ i => ∃ j : Nat, j ≤ k ∧ i = .int .i64 (j : Int) ∧ l = .int .i64 (V j)) (fun _ _ i => k - (intOf i).toNat)
  case atStart => exact ⟨0, Nat.zero_le _, rfl, by rw [HV0.out]⟩
  case round =>
    obtain ⟨j, hj, rfl, rfl⟩ := hrel
    by_cases hlt : j < k
    · have ej := EZ.out j hlt
      have hz1 := HZ.out j
      have hvb := HVB.out j (by omega)
      go_wp2
      go_round
      case rel => exact ⟨j + 1, by omega, by go_num, by rw [HV.out j, or256 _ _ hvb.1 hvb.2 hz1.1 hz1.2]⟩
      case measure => simp [intOf]; omega
    · obtain rfl : j = k := by omega
      rw [HVM.out]
      by_cases hcm : c - 2 - j = m
      · go_wp2
        go_quiet (fail)
        go_wp2
        go_ret3
        refine ⟨_, _, _, _, _, _, _, _, _, rfl, ?_, ?_, ?_, ?_, ?_, ?_, ?_, _, setCell_drewN2 _ _ _ _ _⟩
        all_goals first | omega | (intro h; first | rfl | omega)
      · go_wp2
        go_quiet (fail)
        go_wp2
        go_ret3
        refine ⟨_, _, _, _, _, _, _, _, _, rfl, ?_, ?_, ?_, ?_, ?_, ?_, ?_, _, setCell_drewN2 _ _ _ _ _⟩
        all_goals first | omega | (intro h; first | rfl | omega)

end Go.Proofs.Qxb6601264a
