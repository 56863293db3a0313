/-
  FnAppendMatchesCaseTable (function 5): her walk.
-/
import Derived.Test.Qxb6601264aL1
import Derived.Test.Qxb6601264aHdr
namespace Go.Proofs.Qxb6601264a
open Go.RowKit Plain

set_option maxRecDepth 100000 in
set_option maxHeartbeats 400000 in
theorem zz17_yes (a0 : Int) (o1 o2 : Option Addr) (n1 n2 c1 c2 : Nat) (w : World) (h : n1 + n2 ≤ 1048576) :
    Calls Try.prog 17 #[.slice o1 n1 c1, .int .u8 a0, .slice o2 n2 c2] w fun e w' => e = .returned (.bool true) ∧ w' = w := by
  go_enter Try.func17, Try.ntmps17
  go_wp2
  go_ret
  exact ⟨rfl, rfl⟩

set_option maxRecDepth 100000 in
set_option maxHeartbeats 400000 in
theorem zz17_no (a0 : Int) (o1 o2 : Option Addr) (n1 n2 c1 c2 : Nat) (w : World) (h : ¬ n1 + n2 ≤ 1048576) (h1 : n1 ≤ maxLen) (h2 : n2 ≤ maxLen) :
    Calls Try.prog 17 #[.slice o1 n1 c1, .int .u8 a0, .slice o2 n2 c2] w fun e w' => e = .returned (.bool false) ∧ w' = w := by
  unfold maxLen at h1 h2
  by_cases g1 : n1 ≤ 1048576
  · by_cases g2 : n2 ≤ 1048576
    all_goals
      go_enter Try.func17, Try.ntmps17
      go_wp2
      go_ret
      exact ⟨rfl, rfl⟩
  · go_enter Try.func17, Try.ntmps17
    go_wp2
    go_ret
    exact ⟨rfl, rfl⟩

set_option maxRecDepth 100000 in
set_option maxHeartbeats 400000 in
theorem l2_small (tag : Int) (co ro : Option Addr) (m r cc cr : Nat) (w : World) (hm : m ≤ maxLen) (hr : r ≤ maxLen) (h : ¬ m + r ≤ 1048576 ∨ (m + r ≤ 1048576 ∧ (524288 < m ∨ (m ≤ 524288 ∧ 524288 < r)))) :
    Calls Try.prog 5 #[.slice co m cc, .int .u8 tag, .slice ro r cr] w fun e w' => e = .returned (.bool true) ∧ Below w.heap.size w w' := by
  rcases h with h | ⟨h, h' | ⟨h', h''⟩⟩
  · go_enter Try.func5, Try.ntmps5
    go_wp2_with (go_at_call 17; refine (zz17_no _ _ _ _ _ _ _ _ h hm hr).mono ?_; rintro e w' ⟨rfl, rfl⟩)
    go_ret
    exact ⟨rfl, Below.refl _ _⟩
  all_goals
    unfold maxLen at hm hr
    go_enter Try.func5, Try.ntmps5
    go_wp2_with (go_at_call 17; refine (zz17_yes _ _ _ _ _ _ _ _ h).mono ?_; rintro e w' ⟨rfl, rfl⟩)
    go_ret
    exact ⟨rfl, Below.refl _ _⟩

/-- octet i of the header, within what Append wrote -/
theorem enc_at (tag : Int) (bs cs : List Int) (m i : Nat) (hi : i < hl m) : (bs ++ hdr tag m ++ cs).getD (bs.length + i) 0 = hb tag m i := by
  rw [List.append_assoc, List.getD_eq_getElem?_getD, List.getElem?_append_right (by omega), List.getElem?_append_left (by rw [length_hdr]; omega)]
  simp [hdr, hi]

set_option maxRecDepth 100000 in
set_option maxHeartbeats 1000000 in
theorem l2_main (tag : Int) (bo co : Option Addr) (n m cb cc : Nat) (bs cs : List Int) (w : World) (hn : n = bs.length) (hm : m = cs.length) (hb : HB w bo bs) (hc : HB w co cs) (hbn : bo = none → n = 0 ∧ cb = 0) (hcn : co = none → m = 0 ∧ cc = 0)
    (hnb : n ≤ 524288) (hmb : m ≤ 524288) :
    Calls Try.prog 5 #[.slice bo n cb, .int .u8 tag, .slice co m cc] w fun e w' => e = .returned (.bool true) ∧ Below w.heap.size w w' := by
  have HN := hid hn
  have HM := hid hm
  have HB0 := hid hb
  have HC0 := hid hc
  have HBN := hid hbn
  have HCN := hid hcn
  have HHL := hid (hl_bd m)
  obtain ⟨h, hh⟩ : ∃ h, h = hl m := ⟨_, rfl⟩
  have Hh := hid hh
  have hhb : 2 ≤ h ∧ h ≤ 5 := by rw [hh]; exact hl_bd m
  clear hn hm hb hc hbn hcn hh
  go_enter Try.func5, Try.ntmps5
  go_wp2_with fail
  refine (zz17_yes _ _ _ _ _ _ _ _ (by omega)).mono ?_
  rintro e w' ⟨rfl, rfl⟩
  go_wp2_with fail
  refine (clone_any _ _ _ bs _ HN.out HB0.out HBN.out (by have := HN.out; omega)).mono ?_
  rintro e w1 ⟨bo1, rfl, hb1, hbn1, hbl1⟩
  have HB1 := hid hb1
  have HBN1 := hid hbn1
  have HC1 := hid (HC0.out.below hbl1)
  clear hb1 hbn1 HB0 HBN HC0
  go_wp2_with fail
  refine (clone_any _ _ _ cs _ HM.out HC1.out HCN.out (by have := HM.out; omega)).mono ?_
  rintro e w2 ⟨co2, rfl, hc2, hcn2, hbl2⟩
  have HC2 := hid hc2
  have HCN2 := hid hcn2
  have HB2 := hid (HB1.out.below hbl2)
  clear hc2 hcn2 HB1 HC1 HCN
  go_wp2_with fail
  refine (app_any bo1 co2 n m m tag bs cs _ HN.out HM.out HB2.out HBN1.out HC2.out (fun h => ⟨HCN2.out h, HCN2.out h⟩) (by omega) (by omega)).mono ?_
  rintro e w3 ⟨eo, ec, N, rfl, hN, he, hec, hne, hbl3⟩
  obtain ⟨E, hE⟩ : ∃ E, E = bs ++ hdr tag m ++ cs := ⟨_, rfl⟩
  rw [← hE] at he
  have HEL : Hid (E.length = N) := hid (by rw [hE]; simp only [List.length_append, length_hdr]; have h1 := HN.out; have h2 := HM.out; omega)
  obtain ⟨g, off, ea, hcell⟩ := he (by have h1 := HEL.out; have h2 := HHL.out; omega)
  subst ea
  have HE := hid he
  have HCE := hid hcell
  have HED := hid hE
  have HNN : Hid (N = n + h + m) := hid (by rw [Hh.out]; exact hN)
  have hNN : (n : Int) + h + m = N := by have := HNN.out; omega
  have hNb : N ≤ 1048581 := by have := HNN.out; omega
  have hc0 : ¬ ec = 0 := by have h1 := HNN.out; omega
  have HC3 := hid (HC2.out.below hbl3)
  have HB3 := hid (HB2.out.below hbl3)
  have hbw : Below w'.heap.size w' w3 := hbl1.trans ((hbl2.trans (hbl3.mono hbl2.size)).mono hbl1.size)
  clear hN he hne hcell hE HB2 HC2 HBN1 HCN2 hbl1 hbl2 hbl3
  go_wp2_with (go_at_call 12; refine (hdrLen_any _ _).mono ?_; rw [← Hh.out]; rintro e w4 ⟨rfl, rfl⟩)
  have HEB : Hid (HB w4 (some ⟨g, off, none⟩) bs) := by
    have h1 := HE.out.take n
    rw [HED.out, List.append_assoc, List.take_append_of_le_length (by have := HN.out; omega), List.take_of_length_le (by have := HN.out; omega)] at h1
    exact h1
  refine (same_any _ _ _ _ _ _ bs _ HN.out HN.out HEB.out HB3.out (by have := HN.out; omega)).mono ?_
  rintro e w5 ⟨rfl, q0, rfl⟩
  clear HEB
  go_wp2
  go_loopw [11] (fun i wr => ∃ k q : Nat, k ≤ h ∧ i = .int .i64 (k : Int) ∧ wr = w4.drewN q) (fun i _ => h - (intOf i).toNat)
  case atStart => exact ⟨0, q0, Nat.zero_le _, rfl, rfl⟩
  case round =>
    obtain ⟨k, q, hk, rfl, hwr⟩ := hrel
    have HWR := hid hwr
    clear hwr
    by_cases hkl : k < h
    · have hby := fun W => hdrByte_any tag m k W (by omega) (by rw [← Hh.out]; exact hkl)
      obtain ⟨y, hy⟩ : ∃ y, y = hb tag m k := ⟨_, rfl⟩
      have ec : wr.cell? ⟨g, off + (n + k), none⟩ = some (.int .u8 y) := by
        rw [HWR.out, World.cell?_drewN, HCE.out (n + k) (by have h1 := HEL.out; have h2 := HNN.out; omega), HED.out, HN.out, enc_at tag bs cs m k (by rw [← Hh.out]; exact hkl), ← hy]
      rw [← hy] at hby
      have HBY := hid hby
      have hkN : (n : Int) + k < N := by have h2 := HNN.out; omega
      clear hby hy
      go_wp2
      go_quiet ((go_at_call 19; exact Calls.quiet_of_same (HBY.out _)))
      go_wp2
      go_roundw
      case rel => exact ⟨k + 1, _, by omega, by go_num, by rw [HWR.out, World.drewN_drewN]⟩
      case measure => simp [intOf]; omega
    · have hnh : n + h ≤ N := by have h2 := HNN.out; omega
      have HCUT : Hid (∀ a, (0 < m → a = some ⟨g, off + (n + h), none⟩) → HB wr a cs) := by
        intro a ha
        have h1 := HB.place HCE.out (n + h) m a m (Nat.le_refl _) ha
        rw [HED.out, List.drop_append_of_le_length (by rw [List.length_append, length_hdr, ← HN.out, ← Hh.out]; exact Nat.le_refl _), List.drop_of_length_le (by rw [List.length_append, length_hdr, ← HN.out, ← Hh.out]; exact Nat.le_refl _), List.nil_append, List.take_of_length_le (by have := HM.out; omega)] at h1
        rw [HWR.out]
        exact h1.drewN q
      have HC4 : Hid (HB wr co2 cs) := by rw [HWR.out]; exact HC3.out.drewN q
      have hbwr : Below w'.heap.size w' wr := by rw [HWR.out]; exact below_drewN hbw q
      clear hbw
      go_wp2_with fail
      all_goals
        refine (same_any _ _ _ _ _ _ cs _ (by have h1 := HM.out; have h2 := HNN.out; omega) HM.out (HCUT.out _ (fun hq => by first | rfl | (have h2 := HNN.out; omega))) HC4.out (by have := HM.out; omega)).mono ?_
        rintro e w6 ⟨rfl, q1, rfl⟩
        go_wp2
        go_ret
        exact ⟨rfl, below_drewN hbwr _⟩

end Go.Proofs.Qxb6601264a
