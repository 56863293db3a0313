/-
  FnAppendThenReadElementRoundTrip (function 6): the main ways.
-/
import Derived.Test.Qxb6601264aL1
namespace Go.Proofs.Qxb6601264a
open Go.RowKit Plain

set_option maxRecDepth 100000 in
set_option maxHeartbeats 1000000 in
theorem l1_main (tag ask : Int) (co ro : Option Addr) (m r cc cr : Nat) (cs rs : List Int) (w : World) (hm : m = cs.length) (hr : r = rs.length) (hc : HB w co cs) (hro : HB w ro rs) (hcn : co = none → m = 0 ∧ cc = 0) (hrn : ro = none → r = 0 ∧ cr = 0)
    (hmb : m ≤ 524288) (hrb : r ≤ 524288) (bc : Byt cs) (br : Byt rs) (ht : 0 ≤ tag ∧ tag ≤ 255) :
    Calls Try.prog 6 #[.int .u8 tag, .slice co m cc, .slice ro r cr, .int .u8 ask] w fun e w' => e = .returned (.bool true) ∧ Below w.heap.size w w' := by
  have q27 : ∀ (w : World) (a : Option Addr) (n c n' c' : Nat), (binOp .eql 27 (.slice a n c) (.slice none n' c')).run Try.prog w = .ok (.bool a.isNone) w := fun w a n c n' c' => Lib.run_eql_slice_nil w _ _ a n c n' c' Try.underlying27
  obtain ⟨i0, hi, hz0, hz1, hz2⟩ := info_parts Try.info5
  have HM := hid hm
  have HR := hid hr
  have HC := hid hc
  have HRO := hid hro
  have HCN := hid hcn
  have HRN := hid hrn
  have BC := hid bc
  have BR := hid br
  have HT := hid ht
  have HHL := hid (hl_bd m)
  clear hm hr hc hro hcn hrn bc br ht
  go_enter Try.func6, Try.ntmps6
  go_wp2_with fail
  refine (zz20_yes _ _ _ _ _ _ _ _ _ (by omega)).mono ?_
  rintro e w' ⟨rfl, rfl⟩
  go_wp2_with fail
  refine (clone_any _ _ _ cs _ HM.out HC.out HCN.out (by have := HM.out; omega)).mono ?_
  rintro e w1 ⟨co1, rfl, hc1, hcn1, hb1⟩
  have HC1 := hid hc1
  have HCN1 := hid hcn1
  have HRO1 := hid (HRO.out.below hb1)
  clear hc1 hcn1 HC HCN HRO
  go_wp2_with fail
  refine (clone_any _ _ _ rs _ HR.out HRO1.out HRN.out (by have := HR.out; omega)).mono ?_
  rintro e w2 ⟨ro2, rfl, hr2, hrn2, hb2⟩
  have HR2 := hid hr2
  have HRN2 := hid hrn2
  have HC2 := hid (HC1.out.below hb2)
  clear hr2 hrn2 HC1 HRN HRO1
  go_wp2_with fail
  refine (app_any none co1 0 m m tag [] cs _ rfl HM.out (HB.nil _ _) (fun _ => rfl) HC2.out (fun h => ⟨HCN1.out h, HCN1.out h⟩) (by omega) (by omega)).mono ?_
  rintro e w3 ⟨eo, ec, N, rfl, hN, he, hec, hne, hb3⟩
  have HN := hid hN
  have HE := hid he
  have hNb : N ≤ 524293 := by have := HHL.out; omega
  have HC3 := hid (HC2.out.below hb3)
  have HR3 := hid (HR2.out.below hb3)
  clear hN he hec hne HC2 HR2
  obtain ⟨E, hE⟩ : ∃ E, E = hdr tag m ++ cs := ⟨_, rfl⟩
  have HE' : Hid (HB w3 eo E) := by rw [hE]; exact HE.out
  have HEN : Hid (N = E.length) := hid (by rw [hE, List.length_append, length_hdr]; have h1 := HN.out; have h2 := HM.out; omega)
  have HED := hid hE
  clear HE hE
  have hbw3 : Below w'.heap.size w' w3 := hb1.trans ((hb2.trans (hb3.mono hb2.size)).mono hb1.size)
  go_wp2_with (first
    | (at_make; refine wpList_make_full _ rfl _ _ 22 rfl w3.heap.size 5 i0 (.int .u8 0) 1 Try.underlying22 hi hz0 hz1 _ _ _ _ (N + r) rfl rfl (by omega) (by omega) (by rw [hz2]; omega) (by unfold maxLen; omega) (Nat.le_refl _) ?_; intro w4 hown hgrow; obtain ⟨Zs, hZ⟩ : ∃ Zs, Zs = (madeCells (Value.int .u8 0).cells ((N + r) * 1)).toList := ⟨_, rfl⟩; rw [← hZ] at hown; clear hZ; have HM1 := hid (made_row hown).1; have HM2 := hid (made_row hown).2; clear hown; have hb4 : Below w3.heap.size w3 w4 := (Below.refl _ _).grown hgrow (Nat.le_refl _) (by intro k hk; cases hk); have HE4 := hid (HE'.out.below hb4); clear hgrow)
    | (refine wpList_copy_hb rfl (.tmp 40) (.tmp 41) rfl _ _ _ _ _ _ rfl rfl w3.heap.size 0 Zs HM1 E HE4 HEN (hid (by rw [← HEN.out]; omega)) (hid (fun _ => rfl)) (hid (by rw [HM2.out, ← HEN.out]; omega)) w3.heap.size w3 hb4 (hid (Nat.le_refl _)) ?_; intro w5 HM3 hb5; have HR5 := hid (HR3.out.below hb5); clear HM1 hb4)
    | (refine wpList_copy_hb rfl (.tmp 46) (.tmp 47) rfl _ _ _ _ _ _ rfl rfl w3.heap.size N _ HM3 rs HR5 HR (hid (by rw [← HR.out]; omega)) (hid (by intro h; first | rfl | (rw [if_neg (by have := HR.out; omega)]))) (hid (by rw [length_splice _ _ _ (by rw [HM2.out, length_cl, ← HEN.out]; omega), HM2.out, ← HR.out]; omega)) w3.heap.size w3 hb5 (hid (Nat.le_refl _)) ?_; intro w6 HM4 hb6; clear HM3 hb5))
  all_goals
    have HD6 : Hid (HB w6 (some ⟨w3.heap.size, 0, none⟩) (E ++ rs)) := by
      refine HB.of_row HM4.out 0 _ fun j hj => ?_
      have e : splice (splice Zs 0 (cl E)) N (cl rs) = cl (E ++ rs) := by
        rw [cl_append, show N = (cl E).length by rw [length_cl]; exact HEN.out]
        exact splice_two _ _ _ (by have h1 := HM2.out; have h2 := HEN.out; have h3 := HR.out; rw [length_cl, length_cl]; omega)
      rw [e, Nat.zero_add]
      exact cl_get _ j hj
    have HE6 := hid (HE'.out.below hb6)
    have HC6 := hid (HC3.out.below hb6)
    have HR6 := hid (HR3.out.below hb6)
    have HBD : Hid (Byt (E ++ rs)) := by
      rw [HED.out]; exact byt_append (byt_append (byt_hdr tag m HT.out) BC.out) BR.out
    have HLD : Hid ((E ++ rs).length = N + r) := hid (by rw [List.length_append, ← HEN.out, ← HR.out])
    have hbw6 : Below w'.heap.size w' w6 := hbw3.trans (hb6.mono hbw3.size)
    clear hb1 hb2 hb3 hbw3 hb6 HM4 HR5 HE4 HM2 HE' HC3 HR3 HRN2 HCN1
    by_cases hat : ask = tag
    · subst hat
      have hrd : Hid (rd ask (E ++ rs) = some (hl m, m)) := by
        rw [HED.out, HM.out]; exact rd_enc ask cs rs (by have := HM.out; omega)
      refine (read_yes w6.heap.size _ _ _ ask (E ++ rs) _ (cell_new _ _ _) (free_new _ _ _) (by have := HLD.out; omega) (HD6.out.below (below_alloc (Below.refl _ _) (Nat.le_refl _) _)) (Nat.le_refl _) (by omega) HBD.out _ _ hrd.out).mono ?_
      rintro e w8 ⟨a1, a2, a3, c1, c2, c3, rfl, h1, h2, h3, hcell, _, hkeep, hb8, _⟩
      have HK1 : Hid (HB w8 a1 E) := by
        rw [List.take_append_of_le_length (by rw [← HEN.out]; have := HN.out; omega), List.take_of_length_le (by rw [← HEN.out]; have := HN.out; omega)] at h1
        exact h1
      have HK2 : Hid (HB w8 a2 cs) := by
        rw [HED.out, List.append_assoc, List.drop_append_of_le_length (by rw [length_hdr]; exact Nat.le_refl _), List.drop_of_length_le (by rw [length_hdr]; exact Nat.le_refl _), List.nil_append, List.take_append_of_le_length (by have := HM.out; omega), List.take_of_length_le (by have := HM.out; omega)] at h2
        exact h2
      have HK3 : Hid (HB w8 a3 rs) := by
        rw [List.drop_append_of_le_length (by rw [← HEN.out]; have := HN.out; omega), List.drop_of_length_le (by rw [← HEN.out]; have := HN.out; omega), List.nil_append] at h3
        exact h3
      have HE8 := hid (hkeep _ _ (HE6.out.below (below_alloc (Below.refl _ _) (Nat.le_refl _) _)))
      have HC8 := hid (hkeep _ _ (HC6.out.below (below_alloc (Below.refl _ _) (Nat.le_refl _) _)))
      have HR8 := hid (hkeep _ _ (HR6.out.below (below_alloc (Below.refl _ _) (Nat.le_refl _) _)))
      have hbw8 : Below w'.heap.size w' w8 := (below_alloc hbw6 (Nat.le_refl _) _).trans (hb8.mono hbw6.size)
      clear h1 h2 h3 hkeep hb8 HE6 HC6 HR6
      go_wp2_with fail
      refine (same_any _ _ _ _ _ _ E _ (by have := HN.out; have := HEN.out; omega) HEN.out HK1.out HE8.out (by have := HEN.out; omega)).mono ?_
      rintro e w9 ⟨rfl, q1, rfl⟩
      go_wp2_with fail
      refine (same_any _ _ _ _ _ _ cs _ HM.out HM.out (HK2.out.drewN _) (HC8.out.drewN _) (by have := HM.out; omega)).mono ?_
      rintro e w10 ⟨rfl, q2, rfl⟩
      go_wp2_with fail
      refine (same_any _ _ _ _ _ _ rs _ (by have := HR.out; have := HN.out; omega) (by have := HR.out; omega) (HK3.out.drewN _) (HR8.out.drewN _) (by have := HR.out; omega)).mono ?_
      rintro e w11 ⟨rfl, q3, rfl⟩
      go_wp2
      go_ret
      exact ⟨rfl, below_drewN hbw8 _⟩
    · have hat' : (ask != tag) = true := by simpa using hat
      have hrd : Hid (rd ask (E ++ rs) = none) := rd_ne ask _ (by rw [HED.out, List.append_assoc, enc_head]; exact fun h => hat h.symm)
      refine (read_no w6.heap.size _ _ _ ask (E ++ rs) _ (cell_new _ _ _) (by have := HLD.out; omega) (HD6.out.below (below_alloc (Below.refl _ _) (Nat.le_refl _) _)) (Nat.le_refl _) (by omega) HBD.out hrd.out).mono ?_
      rintro e w8 ⟨rfl, q, rfl⟩
      go_wp2_with fail
      refine (same_any _ _ _ _ _ _ (E ++ rs) _ (by have := HLD.out; omega) (by have := HLD.out; omega) ((HD6.out.below (below_alloc (Below.refl _ _) (Nat.le_refl _) _)).drewN q) ((HD6.out.below (below_alloc (Below.refl _ _) (Nat.le_refl _) _)).drewN q) (by have := HLD.out; omega)).mono ?_
      rintro e w9 ⟨rfl, q2, rfl⟩
      go_wp2
      go_ret
      exact ⟨rfl, below_drewN (below_alloc hbw6 (Nat.le_refl _) _) _⟩

end Go.Proofs.Qxb6601264a
