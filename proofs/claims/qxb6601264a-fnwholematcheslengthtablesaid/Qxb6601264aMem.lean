/-
  WHAT A WORLD HOLDS: octets at an address; and the contracts of sameBytes (function 15) and cloneBytes (function 11).
-/
import Derived.Test.Qxb6601264aRows
import Derived.Test.Qxb6601264aPlain
import Derived.WalkKit
import Derived.WalkSpells
import Derived.WalkLawsBesides
import Derived.Laws.CopyOwn
import Derived.Laws.AppendOwnNone
import Derived.BigQuiet
import Derived.Deep.QuietTactic
namespace Go.Proofs.Qxb6601264a
open Go.RowKit Plain

theorem Try.info5 : (Try.prog.info? 5).map (fun i => (i.zero, i.size, i.bytes)) = some (some (.int .u8 0), 1, 1) := by kernel_rfl

theorem hid {p : Prop} (h : p) : Hid p := h

/-- the octets xs lie at a -/
def HB (w : World) (a : Option Addr) (xs : List Int) : Prop :=
  0 < xs.length → ∃ b off, a = some ⟨b, off, none⟩ ∧ ∀ j, j < xs.length → w.cell? ⟨b, off + j, none⟩ = some (.int .u8 (xs.getD j 0))

theorem HB.nil (w : World) (a : Option Addr) : HB w a [] := fun h => absurd h (by simp)

/-- what lies in old memory still lies there -/
theorem HB.below {w w' : World} {a : Option Addr} {xs : List Int} (h : HB w a xs) (hb : Below w.heap.size w w') : HB w' a xs := by
  intro h0
  obtain ⟨b, off, ha, hc⟩ := h h0
  refine ⟨b, off, ha, fun j hj => ?_⟩
  have e := hc j hj
  rw [hb.cell (World.block_lt_of_cell? w _ e)]
  exact e

/-- a part of it, as 'x[i:j]' gives it -/
theorem HB.cut {w : World} {a : Option Addr} {xs : List Int} (h : HB w a xs) (i : Nat) {c : Nat} (hc : xs.length ≤ c) (m : Nat) :
    HB w (if c = i then a else a.map (·.add i)) ((xs.drop i).take m) := by
  intro h0
  simp only [List.length_take, List.length_drop] at h0
  obtain ⟨b, off, rfl, hcell⟩ := h (by omega)
  refine ⟨b, off + i, ?_, fun j hj => ?_⟩
  · rw [if_neg (by omega)]; simp [Addr.add_lit]
  · simp only [List.length_take, List.length_drop] at hj
    rw [Nat.add_assoc, hcell (i + j) (by omega)]
    simp [show j < m by omega]

theorem HB.take {w : World} {a : Option Addr} {xs : List Int} (h : HB w a xs) (m : Nat) : HB w a (xs.take m) := by
  intro h0
  simp only [List.length_take] at h0
  obtain ⟨b, off, rfl, hcell⟩ := h (by omega)
  refine ⟨b, off, rfl, fun j hj => ?_⟩
  simp only [List.length_take] at hj
  rw [hcell j (by omega)]
  simp [show j < m by omega]

theorem HB.drewN {w : World} {a : Option Addr} {xs : List Int} (h : HB w a xs) (n : Nat) : HB (w.drewN n) a xs := h

set_option maxHeartbeats 400000 in
/-- sameBytes of the same octets: true -/
theorem same_any (a a' : Option Addr) (n n' c c' : Nat) (zs : List Int) (w : World) (hn : n = zs.length) (hn' : n' = zs.length) (h : HB w a zs) (h' : HB w a' zs) (hz : zs.length ≤ 4294967296) :
    Calls Try.prog 15 #[.slice a n c, .slice a' n' c'] w fun e w' => e = .returned (.bool true) ∧ ∃ q, w' = w.drewN q := by
  subst hn; subst hn'
  by_cases h0 : 0 < zs.length
  · obtain ⟨b, off, rfl, hc⟩ := h h0
    obtain ⟨b', off', rfl, hc'⟩ := h' h0
    clear h h'
    obtain ⟨n, hn⟩ : ∃ n, n = zs.length := ⟨_, rfl⟩
    rw [← hn] at h0 hz hc hc' ⊢
    have HN : Hid (n = zs.length) := hn
    clear hn
    go_enter Try.func15, Try.ntmps15
    go_wp2
    go_loopw [5] (fun i wr => ∃ k q : Nat, k ≤ n ∧ i = .int .i64 k ∧ wr = w.drewN q) (fun i _ => n - (intOf i).toNat)
    case atStart => exact ⟨0, 0, Nat.zero_le _, rfl, rfl⟩
    case round =>
      obtain ⟨k, q, hk, rfl, rfl⟩ := hrel
      by_cases hlt : k < n
      · have e1 := hc k hlt
        have e2 := hc' k hlt
        clear hc hc'
        go_wp2
        go_quiet (fail)
        go_wp2
        go_roundw
        case rel => exact ⟨k + 1, _, by omega, by go_num, rfl⟩
        case measure => simp [intOf]; omega
      · go_wp2
        go_ret
        exact ⟨rfl, q, rfl⟩
  · have h0' : zs.length = 0 := by omega
    rw [h0']
    go_enter Try.func15, Try.ntmps15
    go_wp2
    refine wp_loop_rounds 1 ?_
    rw [rounds_succ]
    go_wp2
    go_ret
    exact ⟨rfl, 0, rfl⟩


/-- a row that is known whole: the octets in it -/
theorem HB.of_row {w : World} {g : Nat} {L : List Value} {t : TypeId} {fz : Nat × Nat} (h : w.heap[g]? = some (.cells L.toArray t fz)) (off : Nat) (xs : List Int)
    (hL : ∀ j, j < xs.length → L[off + j]? = some (.int .u8 (xs.getD j 0))) : HB w (some ⟨g, off, none⟩) xs := by
  intro _
  refine ⟨g, off, rfl, fun j hj => ?_⟩
  rw [cell_of_row w g (off + j) L.toArray t fz h]
  simpa using hL j hj

theorem made_row {w : World} {base g n : Nat} {xs : List Value} (h : w.ownsRow base 5 1 (.slice (some ⟨g, 0, none⟩) n n) n xs) : w.heap[g]? = some (.cells xs.toArray 5 (0, 0)) ∧ xs.length = n := by
  obtain ⟨h1, h2 | ⟨g', cap, cur, hv, _, hh, _, _, hs, ht⟩⟩ := h
  · simp at h2
  · simp only [Value.slice.injEq, Option.some.injEq, Addr.mk.injEq] at hv
    obtain ⟨⟨rfl, _⟩, _, rfl⟩ := hv
    have e : cur.toList = xs := by rw [← ht]; exact (List.take_of_length_le (by simp [hs])).symm
    rw [← e]
    exact ⟨by simpa using hh, by simp [hs]⟩

theorem splice_all {α : Type} (Z X : List α) (h : Z.length = X.length) : splice Z 0 X = X := by
  simp [splice, h]

/-- the octets as cells -/
def cl (xs : List Int) : List Value := xs.map (Value.int .u8)
theorem length_cl (xs : List Int) : (cl xs).length = xs.length := by simp [cl]
theorem cl_one (xs : List Int) : ∀ v ∈ cl xs, v.oneCell' = true := ints_oneCell .u8 xs
theorem cl_get (xs : List Int) (j : Nat) (h : j < xs.length) : (cl xs)[j]? = some (.int .u8 (xs.getD j 0)) := by simp [cl, h]

/-- where octets lie, their cells lie -/
theorem HB.src {w : World} {a : Option Addr} {xs : List Int} (h : HB w a xs) (hp : 0 < xs.length) : ∃ ad, a = some ad ∧ ∀ j v, (cl xs)[j]? = some v → w.cell? (ad.add j) = some v := by
  obtain ⟨b, off, rfl, hc⟩ := h hp
  refine ⟨_, rfl, fun j v hj => ?_⟩
  have hlt : j < xs.length := by have := (List.getElem?_eq_some_iff.1 hj).1; simpa [cl] using this
  rw [cl_get xs j hlt] at hj
  rw [Addr.add_lit, hc j hlt]
  exact hj

theorem Try.size5 : (Try.prog.info? 5).map (·.size) = some 1 := by kernel_rfl

/-- copy(dst, src), src's octets known, dst in a row that is known whole: the row behind it -/
theorem wpList_copy_hb {w : World} {ops : Array Oper} {rest : List Oper} {o : Oper} {a : Act} {Q : Exit → Act → World → Prop} (hgd : o.guard = none) (d s : Operand)
    (ho : o.op = .call { callee := .builtin .copy, args := #[d, s], argTypes := #[22, 22] })
    (dp sp : Option Addr) (dLen dCap sLen sCap : Nat) (hd : a.eval d = .slice dp dLen dCap) (hs : a.eval s = .slice sp sLen sCap)
    (g off : Nat) (Z : List Value) (hg : Hid (w.heap[g]? = some (.cells Z.toArray 5 (0, 0)))) (xs : List Int) (hx : Hid (HB w sp xs)) (hsl : Hid (sLen = xs.length)) (hdl : Hid (xs.length ≤ dLen))
    (hdp : Hid (0 < xs.length → dp = some ⟨g, off, none⟩)) (hfit : Hid (off + xs.length ≤ Z.length)) (B : Nat) (w0 : World) (hb : Below B w0 w) (hBg : Hid (B ≤ g))
    (h : ∀ w', Hid (w'.heap[g]? = some (.cells (splice Z off (cl xs)).toArray 5 (0, 0))) → Below B w0 w' → wpList Try.prog ops Q rest (a.put o.dst (goInt xs.length)) w') :
    wpList Try.prog ops Q (o :: rest) a w := by
  refine wpList_copy_splice hgd d s 22 22 ho 5 Try.underlying22 Try.size5 dp sp dLen dCap sLen sCap hd hs g off Z 5 hg.out (cl xs) ?_ ?_ ?_ (cl_one xs) B w0 hb hBg.out ?_
  · rw [length_cl, hsl.out]; exact (Nat.min_eq_left hdl.out).symm
  · rw [length_cl]; intro hp; exact ⟨hdp.out hp, hx.out.src hp⟩
  · rw [length_cl]; exact hfit.out
  · rw [length_cl]; exact h

set_option maxHeartbeats 400000 in
theorem clone_some (x : Addr) (n c : Nat) (zs : List Int) (w : World) (hn : n = zs.length) (h : HB w (some x) zs) (hz : zs.length ≤ 4194304) :
    Calls Try.prog 11 #[.slice (some x) n c] w fun e w' => ∃ a', e = .returned (.slice a' n n) ∧ HB w' a' zs ∧ (a' = none → n = 0) ∧ Below w.heap.size w w' := by
  have q22 : ∀ (w : World) (a : Option Addr) (n c n' c' : Nat), (binOp .eql 22 (.slice a n c) (.slice none n' c')).run Try.prog w = .ok (.bool a.isNone) w := fun w a n c n' c' => Lib.run_eql_slice_nil w _ _ a n c n' c' Try.underlying22
  obtain ⟨i0, hi, hz0, hz1, hz2⟩ := info_parts Try.info5
  have hnb : n ≤ 4194304 := by omega
  have HN : Hid (n = zs.length) := hn
  clear hn
  go_enter Try.func11, Try.ntmps11
  go_wp2_with (first
    | (at_make; refine wpList_make_full _ rfl _ _ 22 rfl w.heap.size 5 i0 (.int .u8 0) 1 Try.underlying22 hi hz0 hz1 _ _ _ _ n rfl rfl rfl rfl (by rw [hz2]; omega) (by unfold maxLen; omega) (Nat.le_refl _) ?_; intro w1 hown hgrow; obtain ⟨Zs, hZ⟩ : ∃ Zs, Zs = (madeCells (Value.int .u8 0).cells (n * 1)).toList := ⟨_, rfl⟩; rw [← hZ] at hown; clear hZ; have HM1 := hid (made_row hown).1; have HM2 := hid (made_row hown).2; clear hown; have hb1 : Below w.heap.size w w1 := (Below.refl _ _).grown hgrow (Nat.le_refl _) (by intro k hk; cases hk); have HB1 := hid (h.below hb1); clear hgrow)
    | (refine wpList_copy_hb rfl (.tmp 9) (.tmp 10) rfl _ _ _ _ _ _ rfl rfl w.heap.size 0 Zs HM1 zs HB1 HN (hid (by rw [HN.out]; exact Nat.le_refl _)) (hid (fun _ => rfl)) (hid (by rw [HM2.out, HN.out]; omega)) w.heap.size w hb1 (hid (Nat.le_refl _)) ?_; intro w2 HM3 hb2))
  go_ret
  refine ⟨_, rfl, ?_, (fun h => by cases h), hb2⟩
  refine HB.of_row HM3.out 0 zs fun j hj => ?_
  rw [splice_all _ _ (by rw [HM2.out, length_cl, HN.out]), Nat.zero_add]
  exact cl_get zs j hj

set_option maxHeartbeats 400000 in
theorem clone_none (w : World) :
    Calls Try.prog 11 #[.slice none 0 0] w fun e w' => ∃ a', e = .returned (.slice a' 0 0) ∧ HB w' a' [] ∧ (a' = none → 0 = 0) ∧ Below w.heap.size w w' := by
  have q22 : ∀ (w : World) (a : Option Addr) (n c n' c' : Nat), (binOp .eql 22 (.slice a n c) (.slice none n' c')).run Try.prog w = .ok (.bool a.isNone) w := fun w a n c n' c' => Lib.run_eql_slice_nil w _ _ a n c n' c' Try.underlying22
  go_enter Try.func11, Try.ntmps11
  go_wp2
  go_ret
  exact ⟨none, rfl, HB.nil _ _, (fun _ => by first | rfl | trivial), Below.refl _ _⟩

/-- cloneBytes: the same octets in new memory, no room behind them -/
theorem clone_any (a : Option Addr) (n c : Nat) (zs : List Int) (w : World) (hn : n = zs.length) (h : HB w a zs) (ha : a = none → n = 0 ∧ c = 0) (hz : zs.length ≤ 4194304) :
    Calls Try.prog 11 #[.slice a n c] w fun e w' => ∃ a', e = .returned (.slice a' n n) ∧ HB w' a' zs ∧ (a' = none → n = 0) ∧ Below w.heap.size w w' := by
  cases a with
  | some x => exact clone_some x n c zs w hn h hz
  | none =>
    obtain ⟨rfl, rfl⟩ := ha rfl
    obtain rfl : zs = [] := List.eq_nil_of_length_eq_zero hn.symm
    exact clone_none w

end Go.Proofs.Qxb6601264a
