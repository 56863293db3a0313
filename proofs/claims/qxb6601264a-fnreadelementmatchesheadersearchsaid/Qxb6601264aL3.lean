/-
  FnReadElementMatchesHeaderSearch (function 3): her walk.
-/
import Derived.Test.Qxb6601264aL1
import Derived.Test.Qxb6601264aHdr
namespace Go.Proofs.Qxb6601264a
open Go.RowKit Plain

set_option maxRecDepth 100000 in
set_option maxHeartbeats 400000 in
theorem zz10_yes (a0 : Int) (o1 : Option Addr) (n1 c1 : Nat) (w : World) (h : n1 ≤ 1048576) :
    Calls Try.prog 10 #[.slice o1 n1 c1, .int .u8 a0] w fun e w' => e = .returned (.bool true) ∧ w' = w := by
  go_enter Try.func10, Try.ntmps10
  go_wp2
  go_ret
  exact ⟨rfl, rfl⟩

set_option maxRecDepth 100000 in
set_option maxHeartbeats 400000 in
theorem zz10_no (a0 : Int) (o1 : Option Addr) (n1 c1 : Nat) (w : World) (h : ¬ n1 ≤ 1048576) (h1 : n1 ≤ maxLen) :
    Calls Try.prog 10 #[.slice o1 n1 c1, .int .u8 a0] w fun e w' => e = .returned (.bool false) ∧ w' = w := by
  unfold maxLen at h1
  go_enter Try.func10, Try.ntmps10
  go_wp2
  go_ret
  exact ⟨rfl, rfl⟩

set_option maxRecDepth 100000 in
set_option maxHeartbeats 400000 in
theorem l3_small (tag : Int) (co : Option Addr) (m cc : Nat) (w : World) (hm : m ≤ maxLen) (h : ¬ m ≤ 1048576) :
    Calls Try.prog 3 #[.slice co m cc, .int .u8 tag] w fun e w' => e = .returned (.bool true) ∧ Below w.heap.size w w' := by
  go_enter Try.func3, Try.ntmps3
  go_wp2_with (go_at_call 10; refine (zz10_no _ _ _ _ _ h hm).mono ?_; rintro e w' ⟨rfl, rfl⟩)
  go_ret
  exact ⟨rfl, Below.refl _ _⟩

/-- what the search knows ahead of length k -/
def Fnd (tag : Int) (xs : List Int) (k : Nat) (F : Int) : Prop := (F = -1 ∧ ∀ j, j < k → ¬ At tag xs j) ∨ ∃ m : Nat, F = (m : Int) ∧ At tag xs m

theorem at_iff (tag : Int) (xs : List Int) (k : Nat) : At tag xs k ↔ k + hl k ≤ xs.length ∧ Pre tag xs k := by
  unfold At Pre
  constructor
  · rintro ⟨h1, h2⟩; exact ⟨by omega, by omega, h2⟩
  · rintro ⟨h1, _, h2⟩; exact ⟨by omega, h2⟩

theorem fnd_miss {tag : Int} {xs : List Int} {k : Nat} (h : ∀ j, j < k → ¬ At tag xs j) (hk : ¬ At tag xs k) : Fnd tag xs (k + 1) (-1) :=
  .inl ⟨rfl, fun j hj => by
    by_cases hjk : j = k
    · subst hjk; exact hk
    · exact h j (by omega)⟩

/-- the search came to its end: no element -/
theorem rd_none_of {tag : Int} {xs : List Int} {k : Nat} (hx : Byt xs) (h : ∀ j, j < k → ¬ At tag xs j) (hk : ¬ k + 2 ≤ xs.length) : rd tag xs = none := by
  cases hr : rd tag xs with
  | none => rfl
  | some p =>
    obtain ⟨a, m⟩ := p
    have hat := (at_of_rd tag xs hx a m hr).2.1
    by_cases hm : m < k
    · exact absurd hat (h m hm)
    · have := hat.1
      have := hl_bd m
      omega

theorem rd_some_of {tag : Int} {xs : List Int} {m : Nat} (hL : xs.length ≤ 1048576) (h : At tag xs m) : rd tag xs = some (hl m, m) :=
  rd_of_at tag xs m (by have := h.1; omega) h

set_option maxRecDepth 100000 in
set_option maxHeartbeats 2000000 in
theorem l3_main (tag : Int) (co : Option Addr) (L cc : Nat) (xs : List Int) (w : World) (hL : L = xs.length) (hc : HB w co xs) (hcn : co = none → L = 0 ∧ cc = 0) (hLb : L ≤ 1048576) (bx : Byt xs) :
    Calls Try.prog 3 #[.slice co L cc, .int .u8 tag] w fun e w' => e = .returned (.bool true) ∧ Below w.heap.size w w' := by
  have q27 : ∀ (w : World) (a : Option Addr) (n c n' c' : Nat), (binOp .eql 27 (.slice a n c) (.slice none n' c')).run Try.prog w = .ok (.bool a.isNone) w := fun w a n c n' c' => Lib.run_eql_slice_nil w _ _ a n c n' c' Try.underlying27
  have HL := hid hL
  have HC := hid hc
  have HCN := hid hcn
  have BX := hid bx
  clear hL hc hcn bx
  go_enter Try.func3, Try.ntmps3
  go_wp2_with fail
  refine (zz10_yes _ _ _ _ _ hLb).mono ?_
  rintro e w' ⟨rfl, rfl⟩
  go_wp2_with fail
  refine (clone_any _ _ _ xs _ HL.out HC.out HCN.out (by have := HL.out; omega)).mono ?_
  rintro e w1 ⟨co1, rfl, hc1, hcn1, hb1⟩
  have HC1 := hid hc1
  clear hc1 hcn1 HC HCN
  go_wp2
  go_loopw [5, 6] (fun f i wr => ∃ (k q : Nat) (F : Int), k ≤ L ∧ i = .int .i64 (k : Int) ∧ f = .int .i64 F ∧ Hid (wr = w1.drewN q) ∧ Hid (Fnd tag xs k F)) (fun _ i _ => L - (intOf i).toNat)
  case atStart => exact ⟨0, 0, -1, Nat.zero_le _, rfl, rfl, rfl, .inl ⟨rfl, fun j hj => by omega⟩⟩
  case round =>
    obtain ⟨k, q, F, hkL, rfl, rfl, HWR, HF⟩ := hrel
    rcases HF.out with ⟨rfl, hmiss⟩ | ⟨m, rfl, hat⟩
    · have HMISS := hid hmiss
      clear hmiss
      by_cases hgo : k + 2 ≤ L
      · obtain ⟨h, hh⟩ : ∃ h, h = hl k := ⟨_, rfl⟩
        have Hh := hid hh
        have hhb : 2 ≤ h ∧ h ≤ 5 := by rw [hh]; exact hl_bd k
        clear hh
        by_cases hfit : k + h ≤ L
        · go_wp2_with (go_at_call 12; refine (hdrLen_any _ _).mono ?_; rw [← Hh.out]; rintro e w' ⟨rfl, rfl⟩)
          refine (headerAt_any _ _ tag k xs L HL.out _ (by rw [HWR.out]; exact HC1.out.drewN q) (by omega) (by omega)).mono ?_
          rintro e w2 ⟨b, rfl, hb, q2, rfl⟩
          cases b with
          | true =>
            have HAT : Hid (At tag xs k) := (at_iff tag xs k).2 ⟨by rw [← HL.out, ← Hh.out]; exact hfit, hb.1 rfl⟩
            clear hb
            go_wp2
            go_roundw
            case rel => exact ⟨k + 1, _, k, by omega, by go_num, rfl, by rw [HWR.out, World.drewN_drewN]; rfl, .inr ⟨k, rfl, HAT.out⟩⟩
            case measure => simp [intOf]; omega
          | false =>
            have HNA : Hid (¬ At tag xs k) := fun e => by have := hb.2 ((at_iff tag xs k).1 e).2; cases this
            clear hb
            go_wp2
            go_roundw
            case rel => exact ⟨k + 1, _, -1, by omega, by go_num, rfl, by rw [HWR.out, World.drewN_drewN]; rfl, fnd_miss HMISS.out HNA.out⟩
            case measure => simp [intOf]; omega
        · have HNA : Hid (¬ At tag xs k) := fun e => by
            have := ((at_iff tag xs k).1 e).1
            rw [← HL.out, ← Hh.out] at this
            omega
          go_wp2_with (go_at_call 12; refine (hdrLen_any _ _).mono ?_; rw [← Hh.out]; rintro e w' ⟨rfl, rfl⟩)
          go_roundw
          case rel => exact ⟨k + 1, q, -1, by omega, by go_num, rfl, HWR, fnd_miss HMISS.out HNA.out⟩
          case measure => simp [intOf]; omega
      · have HRD : Hid (rd tag xs = none) := rd_none_of BX.out HMISS.out (by rw [← HL.out]; exact hgo)
        have HCR : Hid (HB wr co1 xs) := by rw [HWR.out]; exact HC1.out.drewN q
        have hbr : Below w'.heap.size w' wr := by rw [HWR.out]; exact below_drewN hb1 q
        go_wp2_with fail
        refine (read_no _ _ _ _ tag xs _ (cell_new _ _ _) HL.out (HCR.out.below (below_alloc (Below.refl _ _) (Nat.le_refl _) _)) (Nat.le_refl _) (by omega) BX.out HRD.out).mono ?_
        rintro e w8 ⟨rfl, q8, rfl⟩
        go_wp2_with fail
        refine (same_any _ _ _ _ _ _ xs _ HL.out HL.out ((HCR.out.below (below_alloc (Below.refl _ _) (Nat.le_refl _) _)).drewN q8) ((HCR.out.below (below_alloc (Below.refl _ _) (Nat.le_refl _) _)).drewN q8) (by have := HL.out; omega)).mono ?_
        rintro e w9 ⟨rfl, q9, rfl⟩
        go_wp2
        go_ret
        exact ⟨rfl, below_drewN (below_alloc hbr (Nat.le_refl _) _) _⟩
    · have HAT := hid hat
      have HRD : Hid (rd tag xs = some (hl m, m)) := rd_some_of (by rw [← HL.out]; exact hLb) hat
      have HCR : Hid (HB wr co1 xs) := by rw [HWR.out]; exact HC1.out.drewN q
      have hbr : Below w'.heap.size w' wr := by rw [HWR.out]; exact below_drewN hb1 q
      clear hat
      obtain ⟨h, hh⟩ : ∃ h, h = hl m := ⟨_, rfl⟩
      have Hh := hid hh
      have hhb : 2 ≤ h ∧ h ≤ 5 := by rw [hh]; exact hl_bd m
      have hend : h + m ≤ L := by have := HAT.out.1; rw [← HL.out, ← hh] at this; exact this
      rw [← hh] at HRD
      clear hh
      obtain ⟨g, off, ea, hcell0⟩ := HCR.out (by have := HL.out; omega)
      subst ea
      go_wp2_with fail
      refine (read_yes _ _ _ _ tag xs _ (cell_new _ _ _) (free_new _ _ _) HL.out (HCR.out.below (below_alloc (Below.refl _ _) (Nat.le_refl _) _)) (Nat.le_refl _) (by omega) BX.out _ _ HRD.out).mono ?_
      rintro e w8 ⟨a1, a2, a3, c1, c2, c3, rfl, h1, h2, h3, hcell, _, hkeep, hb8, _⟩
      have HK1 := hid h1
      have HK2 := hid h2
      have HK3 := hid h3
      have HD8 := hid (hkeep _ _ (HCR.out.below (below_alloc (Below.refl _ _) (Nat.le_refl _) _)))
      have hbw8 : Below w'.heap.size w' w8 := (below_alloc hbr (Nat.le_refl _) _).trans (hb8.mono hbr.size)
      clear h1 h2 h3 hkeep hb8 hcell0 hbr
      go_wp2_with (go_at_call 12; refine (hdrLen_any _ _).mono ?_; rw [← Hh.out]; rintro e w' ⟨rfl, rfl⟩)
      obtain ⟨g', off', ea', hcell8⟩ := HD8.out (by have := HL.out; omega)
      obtain ⟨rfl, rfl, _⟩ := Addr.mk.inj (Option.some.inj ea')
      have HDA : Hid (HB w' (some ⟨g, off, none⟩) (xs.take (h + m))) := HD8.out.take (h + m)
      have HDB : Hid (∀ a, (0 < m → a = some ⟨g, off + h, none⟩) → HB w' a ((xs.drop h).take m)) := fun a ha => HB.place hcell8 h m a m (Nat.le_refl _) ha
      have HDC : Hid (∀ a, (0 < L - (h + m) → a = some ⟨g, off + (h + m), none⟩) → HB w' a (xs.drop (h + m))) := fun a ha => by
        have := HB.place hcell8 (h + m) (L - (h + m)) a (L - (h + m)) (Nat.le_refl _) ha
        rwa [List.take_of_length_le (by rw [List.length_drop, ← HL.out]; exact Nat.le_refl _)] at this
      have HLA : Hid ((xs.take (h + m)).length = h + m) := hid (by rw [List.length_take, ← HL.out]; omega)
      have HLB : Hid (((xs.drop h).take m).length = m) := hid (by rw [List.length_take, List.length_drop, ← HL.out]; omega)
      have HLC : Hid ((xs.drop (h + m)).length = L - (h + m)) := hid (by rw [List.length_drop, ← HL.out])
      clear hcell8 ea'
      have hendI : (h : Int) + m ≤ L := by omega
      by_cases hLh : L = h
      · have hm0 : m = 0 := by omega
        have e := hLh.symm
        subst e
        go_quiet ((go_at_call 15; first | exact Calls.quiet_of (same_any _ _ _ _ _ _ (xs.take (h + m)) _ (by have := HLA.out; omega) (by have := HLA.out; omega) (HK1.out.drewN _) (HDA.out.drewN _) (by have := HLA.out; omega)) | exact Calls.quiet_of (same_any _ _ _ _ _ _ ((xs.drop h).take m) _ (by have := HLB.out; omega) (by have := HLB.out; omega) (HK2.out.drewN _) ((HDB.out _ (fun hq => by first | rfl | omega)).drewN _) (by have := HLB.out; omega)) | exact Calls.quiet_of (same_any _ _ _ _ _ _ (xs.drop (h + m)) _ (by have := HLC.out; omega) (by have := HLC.out; omega) (HK3.out.drewN _) ((HDC.out _ (fun hq => by first | rfl | omega)).drewN _) (by have := HLC.out; omega))))
        go_wp2
        go_ret
        exact ⟨rfl, below_drewN hbw8 _⟩
      · by_cases hLe : L = h + m
        · subst hLe
          go_quiet ((go_at_call 15; first | exact Calls.quiet_of (same_any _ _ _ _ _ _ (xs.take (h + m)) _ (by have := HLA.out; omega) (by have := HLA.out; omega) (HK1.out.drewN _) (HDA.out.drewN _) (by have := HLA.out; omega)) | exact Calls.quiet_of (same_any _ _ _ _ _ _ ((xs.drop h).take m) _ (by have := HLB.out; omega) (by have := HLB.out; omega) (HK2.out.drewN _) ((HDB.out _ (fun hq => by first | rfl | omega)).drewN _) (by have := HLB.out; omega)) | exact Calls.quiet_of (same_any _ _ _ _ _ _ (xs.drop (h + m)) _ (by have := HLC.out; omega) (by have := HLC.out; omega) (HK3.out.drewN _) ((HDC.out _ (fun hq => by first | rfl | omega)).drewN _) (by have := HLC.out; omega))))
          go_wp2
          go_ret
          exact ⟨rfl, below_drewN hbw8 _⟩
        · go_quiet ((go_at_call 15; first | exact Calls.quiet_of (same_any _ _ _ _ _ _ (xs.take (h + m)) _ (by have := HLA.out; omega) (by have := HLA.out; omega) (HK1.out.drewN _) (HDA.out.drewN _) (by have := HLA.out; omega)) | exact Calls.quiet_of (same_any _ _ _ _ _ _ ((xs.drop h).take m) _ (by have := HLB.out; omega) (by have := HLB.out; omega) (HK2.out.drewN _) ((HDB.out _ (fun hq => by first | rfl | omega)).drewN _) (by have := HLB.out; omega)) | exact Calls.quiet_of (same_any _ _ _ _ _ _ (xs.drop (h + m)) _ (by have := HLC.out; omega) (by have := HLC.out; omega) (HK3.out.drewN _) ((HDC.out _ (fun hq => by first | rfl | omega)).drewN _) (by have := HLC.out; omega))))
          go_wp2
          go_ret
          exact ⟨rfl, below_drewN hbw8 _⟩

end Go.Proofs.Qxb6601264a
