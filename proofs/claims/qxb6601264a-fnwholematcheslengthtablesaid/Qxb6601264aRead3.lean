/-
  THE CONTRACT OF (*der.Data).ReadElement (function 14), by the plain function 'rd'.
-/
import Derived.Test.Qxb6601264aRead2
namespace Go.Proofs.Qxb6601264a
open Go.RowKit Plain

/-- a store over a slice leaves the octets -/
theorem HB.setp {w : World} {p : Addr} {u v : Value} {a : Option Addr} {xs : List Int} (h : HB w a xs) (hp : w.cell? p = some u) (hu : ∀ z, u ≠ .int .u8 z) : HB (w.setCell p v) a xs := by
  intro h0
  obtain ⟨b, off, ha, hc⟩ := h h0
  refine ⟨b, off, ha, fun j hj => ?_⟩
  have e := hc j hj
  rw [World.cell?_setCell_other _ _ _ _ (fun he => by rw [← he, hp] at e; exact hu _ (Option.some.inj e))]
  exact e

theorem HB.place {w : World} {b off : Nat} {xs : List Int} (hc : ∀ j, j < xs.length → w.cell? ⟨b, off + j, none⟩ = some (.int .u8 (xs.getD j 0))) (i m : Nat) (a : Option Addr) (n : Nat) (hn : m ≤ n) (ha : 0 < n → a = some ⟨b, off + i, none⟩) : HB w a ((xs.drop i).take m) := by
  intro h0
  simp only [List.length_take, List.length_drop] at h0
  refine ⟨b, off + i, ha (by omega), fun j hj => ?_⟩
  simp only [List.length_take, List.length_drop] at hj
  rw [Nat.add_assoc, hc (i + j) (by omega)]
  simp [show j < m by omega]

theorem read_no (p n c : Nat) (ao : Option Addr) (tag : Int) (xs : List Int) (w : World) (hp : w.cell? ⟨p, 0, none⟩ = some (.slice ao n c)) (hn : n = xs.length) (hx : HB w ao xs) (hnc : n ≤ c) (hnb : n ≤ 16777216) (hB : Byt xs) (hr : rd tag xs = none) :
    Calls Try.prog 14 #[.pointer (some ⟨p, 0, none⟩), .int .u8 tag] w fun e w' => e = .returned (.tuple #[.slice none 0 0, .slice none 0 0, .bool false]) ∧ ∃ q, w' = w.drewN q := by
  by_cases a1 : xs.length < 2
  · exact read_len p n c ao tag w hp (by omega)
  obtain ⟨b, off, rfl, hc⟩ := hx (by omega)
  have e0 := hc 0 (by omega)
  have e1 := hc 1 (by omega)
  rw [Nat.add_zero] at e0
  unfold rd at hr
  rw [if_neg a1] at hr
  by_cases a2 : xs.getD 0 0 ≠ tag
  · exact read_tag p n c b off tag _ w hp (by omega) e0 (by simpa using a2)
  rw [if_neg a2] at hr
  have a2' : xs.getD 0 0 = tag := Classical.not_not.1 a2
  rw [a2'] at e0
  have b1 := hB 1
  by_cases a3 : xs.getD 1 0 < 128
  · rw [if_pos a3] at hr
    by_cases a4 : (xs.length : Int) - 2 < xs.getD 1 0
    · exact read_short_no p n c b off tag _ w hp (by omega) hnb e0 e1 b1.1 a3 (by omega)
    · rw [if_neg a4] at hr; cases hr
  rw [if_neg a3] at hr
  have hand := and127 (xs.getD 1 0) (by omega) b1.2
  by_cases a4 : xs.getD 1 0 - 128 = 0 ∨ 3 < xs.getD 1 0 - 128 ∨ (xs.length : Int) - 2 < xs.getD 1 0 - 128 ∨ xs.getD 2 0 = 0
  · by_cases a5 : xs.getD 1 0 - 128 = 0 ∨ 3 < xs.getD 1 0 - 128 ∨ (xs.length : Int) - 2 < xs.getD 1 0 - 128
    · exact read_long_no1 p n c b off tag _ (xs.getD 1 0 - 128) w hp (by omega) hnb e0 e1 (by omega) b1.2 hand (by omega)
    · have e2 := hc 2 (by omega)
      rw [show xs.getD 2 0 = 0 by omega] at e2
      exact read_long_no2 p n c b off tag _ (xs.getD 1 0 - 128) w hp (by omega) hnc hnb e0 e1 (by omega) b1.2 hand (by omega) (by omega) (by omega) e2
  rw [if_neg a4] at hr
  by_cases a5 : val xs (xs.getD 1 0 - 128).toNat < 128 ∨ (xs.length : Int) - 2 - (xs.getD 1 0 - 128) < val xs (xs.getD 1 0 - 128).toNat
  · have hk : bits .and .i64 (xs.getD 1 0) 127 = ((xs.getD 1 0 - 128).toNat : Int) := by rw [hand]; omega
    refine read_long_no3 p n c b off (xs.getD 1 0 - 128).toNat tag _ (val xs) (fun j => xs.getD (2 + j) 0) w hp hnc hnb e0 e1 (by omega) b1.2 hk (by omega) (by omega) (by omega) ?_ ?_ (fun j => hB (2 + j)) rfl (fun j => rfl) (by omega)
    · intro j hj
      rw [Nat.add_assoc]
      exact hc (2 + j) (by omega)
    · simp only [Nat.add_zero, beq_eq_false_iff_ne, ne_eq]; omega
  · rw [if_neg a5] at hr; cases hr

/-- WHAT AN ACCEPTED READ LEAVES -/
def Took (p h m n : Nat) (xs : List Int) (w : World) (e : Ending) (w' : World) : Prop :=
  ∃ a1 a2 a3 c1 c2 c3, e = .returned (.tuple #[.slice a1 (h + m) c1, .slice a2 m c2, .bool true]) ∧ HB w' a1 (xs.take (h + m)) ∧ HB w' a2 ((xs.drop h).take m) ∧ HB w' a3 (xs.drop (h + m)) ∧
    w'.cell? ⟨p, 0, none⟩ = some (.slice a3 (n - h - m) c3) ∧ n - h - m ≤ c3 ∧ (∀ a ys, HB w a ys → HB w' a ys) ∧ Below p w w' ∧ w'.frozen? ⟨p, 0, none⟩ = false

theorem took_of (p n c b off h m : Nat) (xs : List Int) (w : World) (hp : w.cell? ⟨p, 0, none⟩ = some (.slice (some ⟨b, off, none⟩) n c)) (hf : w.frozen? ⟨p, 0, none⟩ = false) (hn : n = xs.length)
    (hc : ∀ j, j < xs.length → w.cell? ⟨b, off + j, none⟩ = some (.int .u8 (xs.getD j 0))) (e : Ending) (w' : World)
    (H : ∃ a1 a2 a3 n1 n2 n3 c1 c2 c3, e = .returned (.tuple #[.slice a1 n1 c1, .slice a2 n2 c2, .bool true]) ∧ n1 = h + m ∧ n2 = m ∧ n3 = n - h - m ∧
      (0 < n1 → a1 = some ⟨b, off, none⟩) ∧ (0 < n2 → a2 = some ⟨b, off + h, none⟩) ∧ (0 < n3 → a3 = some ⟨b, off + h + m, none⟩) ∧ n3 ≤ c3 ∧ ∃ q, w' = (w.setCell ⟨p, 0, none⟩ (.slice a3 n3 c3)).drewN q) :
    Took p h m n xs w e w' := by
  obtain ⟨a1, a2, a3, n1, n2, n3, c1, c2, c3, rfl, g1, g2, g3, q1, q2, q3, hc3, q, rfl⟩ := H
  subst n1
  subst n2
  subst n3
  have keep : ∀ a ys, HB w a ys → HB ((w.setCell ⟨p, 0, none⟩ (.slice a3 (n - h - m) c3)).drewN q) a ys := fun a ys hh => (hh.setp hp (fun z hz => by cases hz)).drewN q
  refine ⟨a1, a2, a3, c1, c2, c3, rfl, keep _ _ ?_, keep _ _ ?_, keep _ _ ?_, ?_, hc3, keep, ?_, ?_⟩
  · have := HB.place hc 0 (h + m) a1 (h + m) (Nat.le_refl _) (by simpa using q1)
    simpa using this
  · exact HB.place hc h m a2 m (Nat.le_refl _) q2
  · have := HB.place hc (h + m) (n - h - m) a3 (n - h - m) (Nat.le_refl _) (by rw [← Nat.add_assoc]; exact q3)
    rwa [List.take_of_length_le (by simp; omega)] at this
  · rw [World.cell?_drewN]; exact World.cell?_setCell_same _ _ _ hp
  · exact below_drewN (Below.setCell (B := p) (p := ⟨p, 0, none⟩) (Below.refl _ _) (Nat.le_refl p) _) _
  · rw [World.frozen?_drewN, World.frozen?_setCell]; exact hf

theorem read_yes (p n c : Nat) (ao : Option Addr) (tag : Int) (xs : List Int) (w : World) (hp : w.cell? ⟨p, 0, none⟩ = some (.slice ao n c)) (hf : w.frozen? ⟨p, 0, none⟩ = false) (hn : n = xs.length) (hx : HB w ao xs) (hnc : n ≤ c) (hnb : n ≤ 16777216) (hB : Byt xs)
    (h m : Nat) (hr : rd tag xs = some (h, m)) :
    Calls Try.prog 14 #[.pointer (some ⟨p, 0, none⟩), .int .u8 tag] w (Took p h m n xs w) := by
  unfold rd at hr
  by_cases a1 : xs.length < 2
  · rw [if_pos a1] at hr; cases hr
  rw [if_neg a1] at hr
  by_cases a2 : xs.getD 0 0 ≠ tag
  · rw [if_pos a2] at hr; cases hr
  rw [if_neg a2] at hr
  have a2' : xs.getD 0 0 = tag := Classical.not_not.1 a2
  obtain ⟨b, off, rfl, hc⟩ := hx (by omega)
  have e0 := hc 0 (by omega)
  have e1 := hc 1 (by omega)
  rw [Nat.add_zero, a2'] at e0
  have b1 := hB 1
  by_cases a3 : xs.getD 1 0 < 128
  · rw [if_pos a3] at hr
    by_cases a4 : (xs.length : Int) - 2 < xs.getD 1 0
    · rw [if_pos a4] at hr; cases hr
    rw [if_neg a4] at hr
    simp only [Option.some.injEq, Prod.mk.injEq] at hr
    obtain ⟨rfl, hm⟩ := hr
    rw [show xs.getD 1 0 = (m : Int) by omega] at e1
    exact (read_short_yes p n c b off m tag w hp hf (by omega) hnc hnb e0 e1 (by omega) (by omega)).mono fun e w' H => took_of p n c b off 2 m xs w hp hf hn hc e w' H
  rw [if_neg a3] at hr
  have hand := and127 (xs.getD 1 0) (by omega) b1.2
  by_cases a4 : xs.getD 1 0 - 128 = 0 ∨ 3 < xs.getD 1 0 - 128 ∨ (xs.length : Int) - 2 < xs.getD 1 0 - 128 ∨ xs.getD 2 0 = 0
  · rw [if_pos a4] at hr; cases hr
  rw [if_neg a4] at hr
  by_cases a5 : val xs (xs.getD 1 0 - 128).toNat < 128 ∨ (xs.length : Int) - 2 - (xs.getD 1 0 - 128) < val xs (xs.getD 1 0 - 128).toNat
  · rw [if_pos a5] at hr; cases hr
  rw [if_neg a5] at hr
  simp only [Option.some.injEq, Prod.mk.injEq] at hr
  obtain ⟨rfl, hm⟩ := hr
  have hk : bits .and .i64 (xs.getD 1 0) 127 = ((xs.getD 1 0 - 128).toNat : Int) := by rw [hand]; omega
  refine (read_long_yes p n c b off (xs.getD 1 0 - 128).toNat tag _ (val xs) (fun j => xs.getD (2 + j) 0) w hp hf hnc hnb e0 e1 (by omega) b1.2 hk (by omega) (by omega) (by omega) ?_ ?_ (fun j => hB (2 + j)) rfl (fun j => rfl) m (by omega) (by omega) (by omega)).mono
    fun e w' H => took_of p n c b off (2 + (xs.getD 1 0 - 128).toNat) m xs w hp hf hn hc e w' (by simpa only [Nat.add_assoc] using H)
  · intro j hj
    rw [Nat.add_assoc]
    exact hc (2 + j) (by omega)
  · simp only [Nat.add_zero, beq_eq_false_iff_ne, ne_eq]; omega

end Go.Proofs.Qxb6601264a
