/-
  FnWholeMatchesLengthTable (function 7): her walk.
-/
import Derived.Test.Qxb6601264aWhole
import Derived.Test.Qxb6601264aHdr
namespace Go.Proofs.Qxb6601264a
open Go.RowKit Plain

set_option maxRecDepth 100000 in
set_option maxHeartbeats 400000 in
theorem zz21_yes (a0 : Int) (o1 : Option Addr) (n1 c1 : Nat) (w : World) (h : n1 ≤ 1048576) :
    Calls Try.prog 21 #[.slice o1 n1 c1, .int .u8 a0] w fun e w' => e = .returned (.bool true) ∧ w' = w := by
  go_enter Try.func21, Try.ntmps21
  go_wp2
  go_ret
  exact ⟨rfl, rfl⟩

set_option maxRecDepth 100000 in
set_option maxHeartbeats 400000 in
theorem zz21_no (a0 : Int) (o1 : Option Addr) (n1 c1 : Nat) (w : World) (h : ¬ n1 ≤ 1048576) (h1 : n1 ≤ maxLen) :
    Calls Try.prog 21 #[.slice o1 n1 c1, .int .u8 a0] w fun e w' => e = .returned (.bool false) ∧ w' = w := by
  unfold maxLen at h1
  go_enter Try.func21, Try.ntmps21
  go_wp2
  go_ret
  exact ⟨rfl, rfl⟩

set_option maxRecDepth 100000 in
set_option maxHeartbeats 400000 in
theorem l5_small (tag : Int) (co : Option Addr) (m cc : Nat) (w : World) (hm : m ≤ maxLen) (h : ¬ m ≤ 1048576) :
    Calls Try.prog 7 #[.slice co m cc, .int .u8 tag] w fun e w' => e = .returned (.bool true) ∧ Below w.heap.size w w' := by
  go_enter Try.func7, Try.ntmps7
  go_wp2_with (go_at_call 21; refine (zz21_no _ _ _ _ _ h hm).mono ?_; rintro e w' ⟨rfl, rfl⟩)
  go_ret
  exact ⟨rfl, Below.refl _ _⟩

/-- the whole is one element with a header of size h -/
def Wh (tag : Int) (xs : List Int) (h : Nat) : Prop := h ≤ xs.length ∧ hl (xs.length - h) = h ∧ Pre tag xs (xs.length - h)

/-- what the table knows ahead of size k -/
def FndW (tag : Int) (xs : List Int) (k : Nat) (F : Int) : Prop := (F = -1 ∧ ∀ j, 2 ≤ j → j < k → ¬ Wh tag xs j) ∨ ∃ h : Nat, F = (h : Int) ∧ 2 ≤ h ∧ Wh tag xs h

theorem wh_rd {tag : Int} {xs : List Int} {h : Nat} (hL : xs.length ≤ 1048576) (hw : Wh tag xs h) : rd tag xs = some (h, xs.length - h) := by
  obtain ⟨h1, h2, h3⟩ := hw
  have := rd_of_at tag xs (xs.length - h) (by omega) ⟨by rw [h2]; omega, h3.2⟩
  rw [this, h2]

theorem rd_wh {tag : Int} {xs : List Int} (hx : Byt xs) {h m : Nat} (hr : rd tag xs = some (h, m)) : h = hl m ∧ h + m ≤ xs.length ∧ (h + m = xs.length → Wh tag xs h ∧ 2 ≤ h ∧ h ≤ 5) := by
  obtain ⟨e, hat, _⟩ := at_of_rd tag xs hx h m hr
  have b := hl_bd m
  have h1 := hat.1
  refine ⟨e, by omega, fun hall => ?_⟩
  have em : xs.length - h = m := by omega
  refine ⟨⟨by omega, ?_, ?_⟩, by omega, by omega⟩
  · rw [em]; exact e.symm
  · rw [em]; exact ⟨by omega, hat.2⟩

theorem fndw_step {tag : Int} {xs : List Int} {k : Nat} {F : Int} (h : FndW tag xs k F) (hk : ¬ Wh tag xs k) : FndW tag xs (k + 1) F := by
  rcases h with ⟨rfl, h⟩ | h
  · refine .inl ⟨rfl, fun j h2 hj => ?_⟩
    by_cases hjk : j = k
    · subst hjk; exact hk
    · exact h j h2 (by omega)
  · exact .inr h

set_option maxRecDepth 100000 in
set_option maxHeartbeats 2000000 in
theorem l5_main (tag : Int) (co : Option Addr) (L cc : Nat) (xs : List Int) (w : World) (hL : L = xs.length) (hc : HB w co xs) (hcn : co = none → L = 0 ∧ cc = 0) (hLb : L ≤ 1048576) (bx : Byt xs) :
    Calls Try.prog 7 #[.slice co L cc, .int .u8 tag] w fun e w' => e = .returned (.bool true) ∧ Below w.heap.size w w' := by
  have q27 : ∀ (w : World) (a : Option Addr) (n c n' c' : Nat), (binOp .eql 27 (.slice a n c) (.slice none n' c')).run Try.prog w = .ok (.bool a.isNone) w := fun w a n c n' c' => Lib.run_eql_slice_nil w _ _ a n c n' c' Try.underlying27
  have HL := hid hL
  have HC := hid hc
  have HCN := hid hcn
  have BX := hid bx
  clear hL hc hcn bx
  go_enter Try.func7, Try.ntmps7
  go_wp2_with fail
  refine (zz21_yes _ _ _ _ _ hLb).mono ?_
  rintro e w' ⟨rfl, rfl⟩
  go_wp2_with fail
  refine (clone_any _ _ _ xs _ HL.out HC.out HCN.out (by have := HL.out; omega)).mono ?_
  rintro e w1 ⟨co1, rfl, hc1, hcn1, hb1⟩
  have HC1 := hid hc1
  clear hc1 hcn1 HC HCN
  go_wp2
  go_loopw [5, 6] (fun f i wr => ∃ (k q : Nat) (F : Int), 2 ≤ k ∧ k ≤ 6 ∧ i = .int .i64 (k : Int) ∧ f = .int .i64 F ∧ Hid (wr = w1.drewN q) ∧ Hid (FndW tag xs k F)) (fun _ i _ => 6 - (intOf i).toNat)
  case atStart => exact ⟨2, 0, -1, by omega, by omega, rfl, rfl, rfl, .inl ⟨rfl, fun j h2 hj => by omega⟩⟩
  case round =>
    obtain ⟨k, q, F, hk2, hk6, rfl, rfl, HWR, HF⟩ := hrel
    by_cases hgo : k ≤ 5
    · by_cases hkL : k ≤ L
      · obtain ⟨n, hn⟩ : ∃ n : Nat, (L : Int) - k = (n : Int) := ⟨L - k, by omega⟩
        have HNN : Hid (n = xs.length - k) := hid (by have := HL.out; omega)
        obtain ⟨h, hh⟩ : ∃ h, h = hl n := ⟨_, rfl⟩
        have Hh := hid hh
        have hhb : 2 ≤ h ∧ h ≤ 5 := by rw [hh]; exact hl_bd n
        have hnb : n ≤ 1048576 := by omega
        clear hh
        by_cases hhk : h = k
        · subst hhk
          go_wp2_with (go_at_call 12; refine (hdrLen_any _ _).mono ?_; rw [← Hh.out]; rintro e w' ⟨rfl, rfl⟩)
          refine (headerAt_any _ _ tag n xs L HL.out _ (by rw [HWR.out]; exact HC1.out.drewN q) (by omega) (by omega)).mono ?_
          rintro e w2 ⟨b, rfl, hb, q2, rfl⟩
          cases b with
          | true =>
            have HW : Hid (Wh tag xs h) := ⟨by rw [← HL.out]; exact hkL, by rw [← HNN.out]; exact Hh.out.symm, by rw [← HNN.out]; exact hb.1 rfl⟩
            clear hb
            go_wp2
            go_roundw
            case rel => exact ⟨h + 1, _, h, by omega, by omega, by go_num, rfl, by rw [HWR.out, World.drewN_drewN]; rfl, .inr ⟨h, rfl, hk2, HW.out⟩⟩
            case measure => simp [intOf]; omega
          | false =>
            have HNW : Hid (¬ Wh tag xs h) := fun e => by
              have h3 := e.2.2
              rw [← HNN.out] at h3
              have := hb.2 h3
              cases this
            clear hb
            go_wp2
            go_roundw
            case rel => exact ⟨h + 1, _, F, by omega, by omega, by go_num, rfl, by rw [HWR.out, World.drewN_drewN]; rfl, fndw_step HF.out HNW.out⟩
            case measure => simp [intOf]; omega
        · have HNW : Hid (¬ Wh tag xs k) := fun e => by
            have h3 := e.2.1
            rw [← HNN.out, ← Hh.out] at h3
            exact hhk h3
          have hhk' : ((h : Int) == (k : Int)) = false := beq_eq_false_iff_ne.2 (by omega)
          clear hhk
          go_wp2_with (go_at_call 12; refine (hdrLen_any _ _).mono ?_; rw [← Hh.out]; rintro e w' ⟨rfl, rfl⟩)
          go_roundw
          case rel => exact ⟨k + 1, q, F, by omega, by omega, by go_num, rfl, HWR, fndw_step HF.out HNW.out⟩
          case measure => simp [intOf]; omega
      · have HNW : Hid (¬ Wh tag xs k) := fun e => by
          have h3 := e.1
          rw [← HL.out] at h3
          exact hkL h3
        go_wp2
        go_roundw
        case rel => exact ⟨k + 1, q, F, by omega, by omega, by go_num, rfl, HWR, fndw_step HF.out HNW.out⟩
        case measure => simp [intOf]; omega
    · have HCR : Hid (HB wr co1 xs) := by rw [HWR.out]; exact HC1.out.drewN q
      have hbr : Below w'.heap.size w' wr := by rw [HWR.out]; exact below_drewN hb1 q
      rcases HF.out with ⟨rfl, hmiss⟩ | ⟨h, rfl, hh2, hwh⟩
      · have HNO : Hid (Calls Try.prog 22 #[.slice co1 L L, .int .u8 tag] wr fun e w' => e = .returned (.tuple #[.slice none 0 0, .bool false]) ∧ Below wr.heap.size wr w') := by
          cases hr : rd tag xs with
          | none => exact whole_none L L co1 tag xs wr HL.out HCR.out (Nat.le_refl _) (by omega) BX.out hr
          | some p =>
            obtain ⟨h, m⟩ := p
            obtain ⟨_, h2, h3⟩ := rd_wh BX.out hr
            by_cases hall : h + m = xs.length
            · obtain ⟨h4, h5, h6⟩ := h3 hall
              exact absurd h4 (hmiss h h5 (by omega))
            · exact whole_more L L co1 tag xs wr HL.out HCR.out (Nat.le_refl _) (by omega) BX.out h m hr (by have := HL.out; omega)
        clear hmiss
        go_wp2_with fail
        refine HNO.out.mono ?_
        rintro e w2 ⟨rfl, hb2⟩
        go_wp2
        go_ret
        exact ⟨rfl, hbr.trans (hb2.mono hbr.size)⟩
      · have HRD : Hid (rd tag xs = some (h, L - h)) := by
          have := wh_rd (by rw [← HL.out]; exact hLb) hwh
          rw [HL.out]; exact this
        have hhL : h ≤ L := by have := hwh.1; rw [← HL.out] at this; exact this
        clear hwh
        obtain ⟨g, off, ea, _⟩ := HCR.out (by have := HL.out; omega)
        subst ea
        go_wp2_with fail
        refine (whole_yes L L _ tag xs _ HL.out HCR.out (Nat.le_refl _) (by omega) BX.out h (L - h) HRD.out (by omega)).mono ?_
        rintro e w2 ⟨a2, c2, rfl, h2, hb2⟩
        have HG := hid h2
        obtain ⟨g', off', ea', hcell2⟩ := (HCR.out.below hb2) (by have := HL.out; omega)
        obtain ⟨rfl, rfl, _⟩ := Addr.mk.inj (Option.some.inj ea')
        have HDD : Hid (∀ a, (0 < L - h → a = some ⟨g, off + h, none⟩) → HB w2 a (xs.drop h)) := fun a ha => by
          have := HB.place hcell2 h (L - h) a (L - h) (Nat.le_refl _) ha
          rwa [List.take_of_length_le (by rw [List.length_drop, ← HL.out]; exact Nat.le_refl _)] at this
        have HLD : Hid ((xs.drop h).length = L - h) := hid (by rw [List.length_drop, ← HL.out])
        have hbw2 : Below w'.heap.size w' w2 := hbr.trans (hb2.mono hbr.size)
        clear h2 hcell2 ea' hb2 hbr
        go_wp2_with fail
        all_goals
          refine (same_any _ _ _ _ _ _ _ _ (by have := HLD.out; omega) (by have := HLD.out; omega) HG.out (HDD.out _ (fun hq => by first | rfl | omega)) (by have := HLD.out; omega)).mono ?_
          rintro e w3 ⟨rfl, q3, rfl⟩
          go_wp2
          go_ret
          exact ⟨rfl, below_drewN hbw2 _⟩

end Go.Proofs.Qxb6601264a
