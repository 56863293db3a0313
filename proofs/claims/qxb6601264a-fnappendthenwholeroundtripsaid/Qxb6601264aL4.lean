/-
  FnAppendThenWholeRoundTrip (function 9): her walk.
-/
import Derived.Test.Qxb6601264aWhole
namespace Go.Proofs.Qxb6601264a
open Go.RowKit Plain

set_option maxRecDepth 100000 in
set_option maxHeartbeats 400000 in
theorem zz24_yes (a0 a2 a3 : Int) (o1 : Option Addr) (n1 c1 : Nat) (w : World) (h : n1 ≤ 1048576) :
    Calls Try.prog 24 #[.int .u8 a0, .slice o1 n1 c1, .int .u8 a2, .int .u8 a3] w fun e w' => e = .returned (.bool true) ∧ w' = w := by
  go_enter Try.func24, Try.ntmps24
  go_wp2
  go_ret
  exact ⟨rfl, rfl⟩

set_option maxRecDepth 100000 in
set_option maxHeartbeats 400000 in
theorem zz24_no (a0 a2 a3 : Int) (o1 : Option Addr) (n1 c1 : Nat) (w : World) (h : ¬ n1 ≤ 1048576) (h1 : n1 ≤ maxLen) :
    Calls Try.prog 24 #[.int .u8 a0, .slice o1 n1 c1, .int .u8 a2, .int .u8 a3] w fun e w' => e = .returned (.bool false) ∧ w' = w := by
  unfold maxLen at h1
  go_enter Try.func24, Try.ntmps24
  go_wp2
  go_ret
  exact ⟨rfl, rfl⟩

set_option maxRecDepth 100000 in
set_option maxHeartbeats 400000 in
theorem l4_small (tag ask more : Int) (co : Option Addr) (m cc : Nat) (w : World) (hm : m ≤ maxLen) (h : ¬ m ≤ 1048576) :
    Calls Try.prog 9 #[.int .u8 tag, .slice co m cc, .int .u8 ask, .int .u8 more] w fun e w' => e = .returned (.bool true) ∧ Below w.heap.size w w' := by
  go_enter Try.func9, Try.ntmps9
  go_wp2_with (go_at_call 24; refine (zz24_no _ _ _ _ _ _ _ h hm).mono ?_; rintro e w' ⟨rfl, rfl⟩)
  go_ret
  exact ⟨rfl, Below.refl _ _⟩

theorem made_octets (n : Nat) : (madeCells (Value.int .u8 0).cells (n * 1)).toList = cl (List.replicate n (0 : Int)) := by
  unfold cl
  apply List.ext_getElem?
  intro i
  by_cases h : i < n
  · simp [madeCells, Value.cells, Nat.mod_one, h]
  · simp [madeCells, Value.cells, h]

theorem splice_one (E : List Int) (N : Nat) (h : N = E.length) : splice (cl (List.replicate (N + 1) (0 : Int))) 0 (cl E) = cl (E ++ [0]) := by
  subst h
  simp [splice, cl]

/-- a store behind the last octet of E -/
theorem row_last {w : World} {g N : Nat} {E : List Int} (hN : N = E.length) (h : w.heap[g]? = some (.cells (cl (E ++ [0])).toArray 5 (0, 0))) (y : Int) :
    w.cell? ⟨g, N, none⟩ = some (.int .u8 0) ∧ w.frozen? ⟨g, N, none⟩ = false ∧ HB (w.setCell ⟨g, N, none⟩ (.int .u8 y)) (some ⟨g, 0, none⟩) (E ++ [y]) := by
  subst hN
  refine ⟨?_, frozen_of_row w g _ _ 5 h, ?_⟩
  · rw [cell_of_row w g _ _ 5 (0, 0) h]; simp [cl]
  · have e := heap_setCell_same w g E.length (cl (E ++ [0])).toArray 5 (.int .u8 y) h
    have e2 : ((cl (E ++ [0])).toArray.setIfInBounds E.length (Value.int .u8 y)) = (cl (E ++ [y])).toArray := by
      simp [cl]
    rw [e2] at e
    refine HB.of_row e 0 _ fun j hj => ?_
    rw [Nat.zero_add]
    exact cl_get _ j hj

set_option maxRecDepth 100000 in
set_option maxHeartbeats 1000000 in
theorem l4_main (tag ask more : Int) (co : Option Addr) (m cc : Nat) (cs : List Int) (w : World) (hm : m = cs.length) (hc : HB w co cs) (hcn : co = none → m = 0 ∧ cc = 0)
    (hmb : m ≤ 1048576) (bc : Byt cs) (ht : 0 ≤ tag ∧ tag ≤ 255) (hy : 0 ≤ more ∧ more ≤ 255) :
    Calls Try.prog 9 #[.int .u8 tag, .slice co m cc, .int .u8 ask, .int .u8 more] w fun e w' => e = .returned (.bool true) ∧ Below w.heap.size w w' := by
  have q27 : ∀ (w : World) (a : Option Addr) (n c n' c' : Nat), (binOp .eql 27 (.slice a n c) (.slice none n' c')).run Try.prog w = .ok (.bool a.isNone) w := fun w a n c n' c' => Lib.run_eql_slice_nil w _ _ a n c n' c' Try.underlying27
  have n27 : ∀ (w : World) (a : Option Addr) (n c n' c' : Nat), (binOp .neq 27 (.slice a n c) (.slice none n' c')).run Try.prog w = .ok (.bool (!a.isNone)) w := fun w a n c n' c' => run_neq_slice_nil_any w _ _ a n c n' c' Try.underlying27
  obtain ⟨i0, hi, hz0, hz1, hz2⟩ := info_parts Try.info5
  have HM := hid hm
  have HC := hid hc
  have HCN := hid hcn
  have BC := hid bc
  have HT := hid ht
  have HY := hid hy
  have HHL := hid (hl_bd m)
  clear hm hc hcn bc ht hy
  go_enter Try.func9, Try.ntmps9
  go_wp2_with fail
  refine (zz24_yes _ _ _ _ _ _ _ hmb).mono ?_
  rintro e w' ⟨rfl, rfl⟩
  go_wp2_with fail
  refine (clone_any _ _ _ cs _ HM.out HC.out HCN.out (by have := HM.out; omega)).mono ?_
  rintro e w1 ⟨co1, rfl, hc1, hcn1, hb1⟩
  have HC1 := hid hc1
  have HCN1 := hid hcn1
  clear hc1 hcn1 HC HCN
  go_wp2_with fail
  refine (app_any none co1 0 m m tag [] cs _ rfl HM.out (HB.nil _ _) (fun _ => rfl) HC1.out (fun h => ⟨HCN1.out h, HCN1.out h⟩) (by omega) (by omega)).mono ?_
  rintro e w3 ⟨eo, ec, N, rfl, hN, he, hec, hne, hb3⟩
  have HN := hid hN
  have hNb : N ≤ 1048581 := by have := HHL.out; omega
  have HC3 := hid (HC1.out.below hb3)
  obtain ⟨E, hE⟩ : ∃ E, E = hdr tag m ++ cs := ⟨_, rfl⟩
  have HE : Hid (HB w3 eo E) := by rw [hE]; exact he
  have HEN : Hid (N = E.length) := hid (by rw [hE, List.length_append, length_hdr]; have h1 := HN.out; have h2 := HM.out; omega)
  have HBE : Hid (Byt E) := by rw [hE]; exact byt_append (byt_hdr tag m HT.out) BC.out
  have HED := hid hE
  have hbw3 : Below w'.heap.size w' w3 := hb1.trans (hb3.mono hb1.size)
  clear hN he hne hE HC1 hb1 hb3
  -- the first Whole, and what is asked of it
  by_cases hat : ask = tag
  · subst hat
    have HRD : Hid (rd ask E = some (hl m, m)) := by
      have := rd_enc ask cs [] (by have := HM.out; omega)
      rw [List.append_nil] at this
      rw [HED.out, HM.out]; exact this
    go_wp2_with fail
    refine (whole_yes N ec eo ask E _ HEN.out HE.out hec (by omega) HBE.out (hl m) m HRD.out (by have := HN.out; omega)).mono ?_
    rintro e w4 ⟨a2, c2, rfl, h2, hb4⟩
    have HG : Hid (HB w4 a2 cs) := by
      rw [HED.out, List.drop_append_of_le_length (by rw [length_hdr]; exact Nat.le_refl _), List.drop_of_length_le (by rw [length_hdr]; exact Nat.le_refl _), List.nil_append] at h2
      exact h2
    have HC4 := hid (HC3.out.below hb4)
    have HE4 := hid (HE.out.below hb4)
    have hbw4 : Below w'.heap.size w' w4 := hbw3.trans (hb4.mono hbw3.size)
    clear h2 hb4 hbw3 HC3 HE
    go_wp2_with fail
    refine (same_any _ _ _ _ _ _ cs _ HM.out HM.out HG.out HC4.out (by have := HM.out; omega)).mono ?_
    rintro e w5 ⟨rfl, q5, rfl⟩
    have HE5 := hid (HE4.out.drewN q5)
    have hbw5 : Below w'.heap.size w' (w4.drewN q5) := below_drewN hbw4 q5
    obtain ⟨w5, hw5⟩ : ∃ w5, w5 = w4.drewN q5 := ⟨_, rfl⟩
    rw [← hw5] at HE5 hbw5 ⊢
    clear hw5 HC4 HE4 hbw4 HG
    go_wp2_with (first
      | (at_make; refine wpList_make_full _ rfl _ _ 22 rfl w5.heap.size 5 i0 (.int .u8 0) 1 Try.underlying22 hi hz0 hz1 _ _ _ _ (N + 1) rfl rfl (by omega) (by omega) (by rw [hz2]; omega) (by unfold maxLen; omega) (Nat.le_refl _) ?_; intro w6 hown hgrow; rw [made_octets] at hown; have HM1 := hid (made_row hown).1; clear hown; have hb6 : Below w5.heap.size w5 w6 := (Below.refl _ _).grown hgrow (Nat.le_refl _) (by intro k hk; cases hk); have HE6 := hid (HE5.out.below hb6); clear hgrow)
      | (refine wpList_copy_hb rfl (.tmp 55) (.tmp 56) rfl _ _ _ _ _ _ rfl rfl w5.heap.size 0 _ HM1 E HE6 HEN (hid (by rw [← HEN.out]; omega)) (hid (fun _ => rfl)) (hid (by rw [length_cl, List.length_replicate, ← HEN.out]; omega)) w5.heap.size w5 hb6 (hid (Nat.le_refl _)) ?_; intro w7 HM3 hb7; rw [splice_one E N HEN.out] at HM3; have hcN := (row_last HEN.out HM3.out more).1; have hfN := (row_last HEN.out HM3.out more).2.1; have HLO := hid (row_last HEN.out HM3.out more).2.2; clear HM1 hb6 HE6))
    have HBL : Hid (Byt (E ++ [more])) := byt_append HBE.out (fun i => by
      have h := HY.out
      match i with
      | 0 => exact h
      | i + 1 => exact ⟨by simp, by simp⟩)
    have HRD2 : Hid (rd ask (E ++ [more]) = some (hl m, m)) := by
      rw [HED.out, HM.out]; exact rd_enc ask cs [more] (by have := HM.out; omega)
    have hb8 : Below w'.heap.size w' (w7.setCell ⟨w5.heap.size, N, none⟩ (.int .u8 more)) := hbw5.trans ((hb7.setCell (p := ⟨w5.heap.size, N, none⟩) (Nat.le_refl _) _).mono hbw5.size)
    refine (whole_more _ _ _ ask (E ++ [more]) _ (by rw [List.length_append, ← HEN.out]; rfl) HLO.out (Nat.le_refl _) (by omega) HBL.out (hl m) m HRD2.out (by have := HN.out; omega)).mono ?_
    rintro e w9 ⟨rfl, hb9⟩
    go_wp2
    go_ret
    exact ⟨rfl, hb8.trans (hb9.mono hb8.size)⟩
  · have hat' : (ask != tag) = true := by simpa using hat
    have HRD : Hid (rd ask E = none) := rd_ne ask _ (by rw [HED.out, enc_head]; exact fun h => hat h.symm)
    clear hat
    go_wp2_with fail
    refine (whole_none N ec eo ask E _ HEN.out HE.out hec (by omega) HBE.out HRD.out).mono ?_
    rintro e w5 ⟨rfl, hb4⟩
    have HE5 := hid (HE.out.below hb4)
    have hbw5 : Below w'.heap.size w' w5 := hbw3.trans (hb4.mono hbw3.size)
    clear hb4 hbw3 HC3 HE
    go_wp2_with (first
      | (at_make; refine wpList_make_full _ rfl _ _ 22 rfl w5.heap.size 5 i0 (.int .u8 0) 1 Try.underlying22 hi hz0 hz1 _ _ _ _ (N + 1) rfl rfl (by omega) (by omega) (by rw [hz2]; omega) (by unfold maxLen; omega) (Nat.le_refl _) ?_; intro w6 hown hgrow; rw [made_octets] at hown; have HM1 := hid (made_row hown).1; clear hown; have hb6 : Below w5.heap.size w5 w6 := (Below.refl _ _).grown hgrow (Nat.le_refl _) (by intro k hk; cases hk); have HE6 := hid (HE5.out.below hb6); clear hgrow)
      | (refine wpList_copy_hb rfl (.tmp 55) (.tmp 56) rfl _ _ _ _ _ _ rfl rfl w5.heap.size 0 _ HM1 E HE6 HEN (hid (by rw [← HEN.out]; omega)) (hid (fun _ => rfl)) (hid (by rw [length_cl, List.length_replicate, ← HEN.out]; omega)) w5.heap.size w5 hb6 (hid (Nat.le_refl _)) ?_; intro w7 HM3 hb7; rw [splice_one E N HEN.out] at HM3; have hcN := (row_last HEN.out HM3.out more).1; have hfN := (row_last HEN.out HM3.out more).2.1; have HLO := hid (row_last HEN.out HM3.out more).2.2; clear HM1 hb6 HE6))
    have HBL : Hid (Byt (E ++ [more])) := byt_append HBE.out (fun i => by
      have h := HY.out
      match i with
      | 0 => exact h
      | i + 1 => exact ⟨by simp, by simp⟩)
    have HRD2 : Hid (rd tag (E ++ [more]) = some (hl m, m)) := by
      rw [HED.out, HM.out]; exact rd_enc tag cs [more] (by have := HM.out; omega)
    have hb8 : Below w'.heap.size w' (w7.setCell ⟨w5.heap.size, N, none⟩ (.int .u8 more)) := hbw5.trans ((hb7.setCell (p := ⟨w5.heap.size, N, none⟩) (Nat.le_refl _) _).mono hbw5.size)
    refine (whole_more _ _ _ tag (E ++ [more]) _ (by rw [List.length_append, ← HEN.out]; rfl) HLO.out (Nat.le_refl _) (by omega) HBL.out (hl m) m HRD2.out (by have := HN.out; omega)).mono ?_
    rintro e w9 ⟨rfl, hb9⟩
    go_wp2
    go_ret
    exact ⟨rfl, hb8.trans (hb9.mono hb8.size)⟩

end Go.Proofs.Qxb6601264a
