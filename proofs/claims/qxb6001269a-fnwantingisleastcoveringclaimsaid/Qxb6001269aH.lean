/-
  THE CONTRACT OF copyHeld (7).
-/
import Derived.Test.Qxb6001269aW
import Derived.OpenShut
namespace Go.Proofs.Qxb6001269a
open Go.RowKit

theorem Try.info21 : (Try.prog.info? 21).map (fun i => (i.zero, i.size, i.bytes)) = some (some (.int .i32 0), 1, 4) := by kernel_rfl

theorem made_ints (n : Nat) : (madeCells (Value.int .i32 0).cells (n * 1)).toList = (List.replicate n (0 : Int)).map (Value.int .i32) := by
  apply List.ext_getElem?
  intro i
  by_cases h : i < n
  · simp [madeCells, Value.cells, Nat.mod_one, h]
  · simp [madeCells, Value.cells, h]

theorem row_store {w : World} {B g n k : Nat} {ys : List Int} (h : w.ownsRow B 21 1 (.slice (some ⟨g, 0, none⟩) n n) n (ys.map (Value.int .i32))) (hk : k < n) (z : Int) :
    (∃ y, w.cell? ⟨g, k, none⟩ = some (.int .i32 y)) ∧ w.frozen? ⟨g, k, none⟩ = false ∧ (w.setCell ⟨g, k, none⟩ (.int .i32 z)).ownsRow B 21 1 (.slice (some ⟨g, 0, none⟩) n n) n ((ys.set k z).map (Value.int .i32)) := by
  have hl : ys.length = n := by have := h.1; simpa using this
  refine ⟨⟨ys.getD k 0, ?_⟩, h.frozenAt k, ?_⟩
  · rw [h.cellAt k (by omega)]; simp [show k < ys.length by omega]
  · rw [List.map_set]; exact (h.stored k _).1

set_option maxRecDepth 100000 in
set_option maxHeartbeats 400000 in
theorem copy_some (x : Addr) (n c : Nat) (zs : List Int) (w : World) (hn : n ≤ zs.length) (h : ∀ i, i < zs.length → w.cell? (x.add i) = some (.int .i32 (zs.getD i 0))) (hb : n ≤ 4194304) :
    Calls Try.prog 7 #[.slice (some x) n c] w fun e w' => ∃ a', e = .returned (.slice a' n n) ∧ Below w.heap.size w w' := by
  have q22 : ∀ (w : World) (a : Option Addr) (n c n' c' : Nat), (binOp .eql 22 (.slice a n c) (.slice none n' c')).run Try.prog w = .ok (.bool a.isNone) w := fun w a n c n' c' => Lib.run_eql_slice_nil w _ _ a n c n' c' Try.underlying22
  obtain ⟨i0, hi, hz0, hz1, hz2⟩ := info_parts Try.info21
  have H := hid h
  have HN := hid hn
  clear h hn
  go_enter Try.func7, Try.ntmps7
  go_wp2_with (at_make; refine wpList_make_full _ rfl _ _ 22 rfl w.heap.size 21 i0 (.int .i32 0) 1 Try.underlying22 hi hz0 hz1 _ _ _ _ n rfl rfl rfl rfl (by rw [hz2]; omega) (by unfold maxLen; omega) (Nat.le_refl _) ?_; intro w1 hown hgrow; rw [made_ints] at hown; have HO1 := hid hown; clear hown; have hb1 : Below w.heap.size w w1 := (Below.refl _ _).grown hgrow (Nat.le_refl _) (by intro k hk; cases hk); clear hgrow)
  go_loopw [4] (fun i wr => ∃ (k : Nat) (ys : List Int), k ≤ n ∧ i = .int .i64 (k : Int) ∧ Hid (wr.ownsRow w.heap.size 21 1 (.slice (some ⟨w.heap.size, 0, none⟩) n n) n (ys.map (Value.int .i32))) ∧ Below w.heap.size w wr) (fun i _ => n - (intOf i).toNat)
  case atStart => exact ⟨0, _, Nat.zero_le _, rfl, HO1, hb1⟩
  case round =>
    obtain ⟨k, ys, hk, rfl, HO, hbr⟩ := hrel
    by_cases hlt : k < n
    · obtain ⟨b, off, ex, hc⟩ := ints_at H.out (by have := HN.out; omega)
      subst ex
      have ec := hc k (by have := HN.out; omega)
      have ec2 : wr.cell? ⟨b, off + k, none⟩ = some (.int .i32 (zs.getD k 0)) := by rw [hbr.cell (World.block_lt_of_cell? w _ ec)]; exact ec
      obtain ⟨⟨y, hy⟩, hfz, hst⟩ := row_store HO.out hlt (zs.getD k 0)
      have HST := hid hst
      clear hc ec hst H
      obtain ⟨z, hz⟩ : ∃ z, z = zs.getD k 0 := ⟨_, rfl⟩
      rw [← hz] at ec2 HST
      clear hz
      go_wp2
      go_roundw
      case rel => exact ⟨k + 1, _, by omega, by go_num, HST, hbr.setCell (Nat.le_refl _) _⟩
      case measure => simp [intOf]; omega
    · go_wp2
      go_ret
      exact ⟨_, rfl, hbr⟩

set_option maxRecDepth 100000 in
set_option maxHeartbeats 400000 in
theorem copy_none (w : World) :
    Calls Try.prog 7 #[.slice none 0 0] w fun e w' => ∃ a', e = .returned (.slice a' 0 0) ∧ Below w.heap.size w w' := by
  have q22 : ∀ (w : World) (a : Option Addr) (n c n' c' : Nat), (binOp .eql 22 (.slice a n c) (.slice none n' c')).run Try.prog w = .ok (.bool a.isNone) w := fun w a n c n' c' => Lib.run_eql_slice_nil w _ _ a n c n' c' Try.underlying22
  go_enter Try.func7, Try.ntmps7
  go_wp2
  go_ret
  exact ⟨_, rfl, Below.refl _ _⟩

end Go.Proofs.Qxb6001269a
