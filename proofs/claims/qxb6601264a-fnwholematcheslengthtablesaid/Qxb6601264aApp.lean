/-
  THE CONTRACT OF der.Append (function 18).
-/
import Derived.Test.Qxb6601264aMem
import Derived.Deep.DeepMust
namespace Go.Proofs.Qxb6601264a
open Go.RowKit Plain

theorem cl_append (xs ys : List Int) : cl (xs ++ ys) = cl xs ++ cl ys := by simp [cl]

theorem HB.one (w : World) (z : Int) : HB (w.alloc (.cells #[.int .u8 z] 5)) (some ⟨w.heap.size, 0, none⟩) [z] := by
  intro _
  refine ⟨_, _, rfl, fun j hj => ?_⟩
  match j, hj with
  | 0, _ => simp

theorem own_one (w : World) (z : Int) (B : Nat) (hB : B ≤ w.heap.size) : (w.alloc (.cells #[.int .u8 z] 5)).ownsRow B 5 1 (.slice (some ⟨w.heap.size, 0, none⟩) 1 1) 1 (cl [z]) :=
  ⟨rfl, .inr ⟨w.heap.size, 1, #[.int .u8 z], rfl, hB, heap_alloc_new w _, Nat.le_refl _, by decide, rfl, rfl⟩⟩

theorem below_alloc {B : Nat} {w0 w : World} (h : Below B w0 w) (hB : B ≤ w0.heap.size) (o : Obj) : Below B w0 (w.alloc o) := h.alloc (Nat.le_trans hB h.size) o

/-- 'append(xs, ys...)' where xs is the call's own -/
theorem wpList_app_own {w : World} {ops : Array Oper} {rest : List Oper} {o : Oper} {a : Act} {Q : Exit → Act → World → Prop} (hgd : o.guard = none) (s x : Operand)
    (ho : o.op = .call { callee := .builtin .append, args := #[s, x], argTypes := #[22, 22] })
    (B : Nat) (v : Value) (n : Nat) (xs : List Int) (hs : a.eval s = v) (hown : Hid (w.ownsRow B 5 1 v n (cl xs)))
    (xo : Option Addr) (m c : Nat) (ys : List Int) (hx : a.eval x = .slice xo m c) (hm : Hid (m = ys.length)) (hy : Hid (HB w xo ys)) (hnone : Hid (xo = none → m = 0 ∧ c = 0))
    (hsz : Hid (n + m ≤ 16777216)) (w0 : World) (hB : Hid (B ≤ w0.heap.size)) (hb : Below B w0 w)
    (h : ∀ v' w', Hid (w'.ownsRow B 5 1 v' (n + m) (cl (xs ++ ys))) → Below B w0 w' → Hid (w.grownBy w' v.ownBlock) → wpList Try.prog ops Q rest (a.put o.dst v') w') :
    wpList Try.prog ops Q (o :: rest) a w := by
  obtain ⟨i0, hi, hz0, hz1, hz2⟩ := info_parts Try.info5
  have hsz' := hsz.out
  have hm' := hm.out
  cases xo with
  | none =>
    obtain ⟨rfl, rfl⟩ := hnone.out rfl
    obtain rfl : ys = [] := List.eq_nil_of_length_eq_zero hm'.symm
    refine wpList_append_own_none hgd s x 22 ho B 5 i0 1 Try.underlying22 hi v n (cl xs) hs hown.out hx ?_
    exact h v w (hid (by simpa using hown.out)) hb (World.grownBy.refl _ _)
  | some ad =>
    refine wpList_append_own w hgd s x 22 ho B 5 i0 (.int .u8 0) 1 1 Try.underlying22 hi hz0 hz1 hz2 rfl (by decide) v n (cl xs) hs hown.out ad m c (cl ys) hx (by rw [length_cl]; omega) ?_ (cl_one ys)
      (by unfold maxLen; omega) (by omega) (Nat.le_trans hB.out hb.size) ?_
    · intro j u hj
      by_cases hp : 0 < ys.length
      · obtain ⟨ad', e, hc⟩ := hy.out.src hp
        obtain rfl := Option.some.inj e
        exact hc j u hj
      · have : ys = [] := List.eq_nil_of_length_eq_zero (by omega)
        subst this
        simp [cl] at hj
    · intro v' w' h1 h2 _
      exact h v' w' (by rw [cl_append]; exact h1) (hb.grown h2 (Nat.le_trans hB.out hb.size) (fun k hk => (hown.out.lt k hk).1)) h2

/-- 'append(xs, ys...)' where xs came in with no room -/
theorem wpList_app_full {w : World} {ops : Array Oper} {rest : List Oper} {o : Oper} {a : Act} {Q : Exit → Act → World → Prop} (hgd : o.guard = none) (s x : Operand)
    (ho : o.op = .call { callee := .builtin .append, args := #[s, x], argTypes := #[22, 22] })
    (ao : Option Addr) (n : Nat) (xs : List Int) (hs : a.eval s = .slice ao n n) (hn : Hid (n = xs.length)) (hxs : Hid (HB w ao xs)) (hao : Hid (ao = none → n = 0))
    (ad : Addr) (m c : Nat) (ys : List Int) (hx : a.eval x = .slice (some ad) m c) (hm : Hid (m = ys.length)) (hy : Hid (HB w (some ad) ys)) (hpos : Hid (0 < m))
    (hsz : Hid (n + m ≤ 16777216)) (B : Nat) (w0 : World) (hB : Hid (B ≤ w0.heap.size)) (hb : Below B w0 w)
    (h : ∀ v' w', Hid (w'.ownsRow B 5 1 v' (n + m) (cl (xs ++ ys))) → Below B w0 w' → wpList Try.prog ops Q rest (a.put o.dst v') w') :
    wpList Try.prog ops Q (o :: rest) a w := by
  obtain ⟨i0, hi, hz0, hz1, hz2⟩ := info_parts Try.info5
  have hsz' := hsz.out
  have hm' := hm.out
  have hn' := hn.out
  have hp' := hpos.out
  refine wpList_append_grows w hgd s x 22 ho 5 i0 (.int .u8 0) 1 1 Try.underlying22 hi hz0 hz1 hz2 rfl (by decide) ao n n (cl xs) hs (fun e => ⟨hao.out e, hao.out e⟩) (by rw [length_cl]; omega) ?_ ad m c (cl ys) hx (by rw [length_cl]; omega) ?_ (cl_one ys)
    (by omega) (by unfold maxLen; omega) (by omega) ?_
  · intro b hb j u hj
    by_cases hp : 0 < xs.length
    · obtain ⟨ad', e, hc⟩ := hxs.out.src hp
      rw [hb] at e
      obtain rfl := Option.some.inj e
      exact hc j u hj
    · have : xs = [] := List.eq_nil_of_length_eq_zero (by omega)
      subst this
      simp [cl] at hj
  · intro j u hj
    obtain ⟨ad', e, hc⟩ := hy.out.src (by omega)
    obtain rfl := Option.some.inj e
    exact hc j u hj
  · intro v' w' h1 h2
    have hBw := Nat.le_trans hB.out hb.size
    refine h v' w' ?_ (hb.grown h2 hBw (fun k hk => by cases hk))
    rw [cl_append]
    obtain ⟨e1, e2 | ⟨g, cap, cur, p1, p2, p3⟩⟩ := h1
    · exact ⟨e1, .inl e2⟩
    · exact ⟨e1, .inr ⟨g, cap, cur, p1, Nat.le_trans hBw p2, p3⟩⟩

/-- the shape of what is owned, and its octets -/
theorem own_shape {w : World} {B : Nat} {v : Value} {n : Nat} {xs : List Int} (h : w.ownsRow B 5 1 v n (cl xs)) : ∃ a c, v = .slice a n c ∧ n = xs.length ∧ HB w a xs ∧ (a = none → n = 0 ∧ c = 0) ∧ n ≤ c ∧ (∀ k, v.ownBlock = some k → B ≤ k ∧ k < w.heap.size) := by
  have hlt := h.lt
  have hcl := fun g => h.cells (g := g)
  obtain ⟨h1, ⟨rfl, rfl⟩ | ⟨g, cap, cur, rfl, hg, hh, hc, _, hs, ht⟩⟩ := h
  · rw [length_cl] at h1
    obtain rfl : xs = [] := List.eq_nil_of_length_eq_zero (by omega)
    exact ⟨none, 0, rfl, rfl, HB.nil _ _, fun _ => ⟨rfl, rfl⟩, Nat.le_refl _, hlt⟩
  · rw [length_cl] at h1
    refine ⟨_, cap, rfl, by omega, ?_, (fun e => by cases e), hc, hlt⟩
    intro _
    refine ⟨g, 0, rfl, fun j hj => ?_⟩
    have := hcl g rfl j _ (cl_get xs j hj)
    rwa [Addr.add_lit] at this

/-- what lies in another block than the one that is written stays -/
theorem HB.grown {w w' : World} {row : Option Nat} {a : Option Addr} {xs : List Int} (h : HB w a xs) (hg : w.grownBy w' row) (hne : ∀ b off, a = some ⟨b, off, none⟩ → some b ≠ row) : HB w' a xs := by
  intro h0
  obtain ⟨b, off, ha, hc⟩ := h h0
  exact ⟨b, off, ha, fun j hj => hg.cell (hc j hj) (hne b off ha)⟩

set_option maxRecDepth 100000 in
set_option maxHeartbeats 400000 in
/-- der.Append of fewer than 128 octets -/
theorem app_short (ao co : Option Addr) (n m cc : Nat) (tag : Int) (bs cs : List Int) (w : World) (hn : n = bs.length) (hm : m = cs.length) (hb : HB w ao bs) (hao : ao = none → n = 0) (hc : HB w co cs) (hco : co = none → m = 0 ∧ cc = 0)
    (hnb : n ≤ 4194304) (hlt : m < 128) :
    Calls Try.prog 18 #[.slice ao n n, .int .u8 tag, .slice co m cc] w fun e w' =>
      ∃ a' c' N, e = .returned (.slice a' N c') ∧ N = n + hl m + m ∧ HB w' a' (bs ++ hdr tag m ++ cs) ∧ N ≤ c' ∧ (a' = none → False) ∧ Below w.heap.size w w' := by
  have HN := hid hn
  have HMM := hid hm
  have HCO := hid hco
  have HAO := hid hao
  clear hn hm hco hao
  go_enter Try.func18, Try.ntmps18
  have HB0 : Hid (w.heap.size ≤ w.heap.size) := Nat.le_refl _
  go_wp2_with (first
    | (at_builtin; refine wpList_app_full rfl (.tmp 9) (.tmp 11) rfl ao n bs rfl HN (hid (hb.below ((Below.refl _ _).alloc (Nat.le_refl _) _))) HAO _ 1 _ [tag] rfl (hid rfl) (hid (HB.one _ _)) (hid (by decide)) (hid (by omega)) w.heap.size w HB0 ((Below.refl _ _).alloc (Nat.le_refl _) _) ?_; intro v1 w1 HO1 hb1; clear HAO)
    | (at_builtin; refine wpList_app_own rfl (.tmp 17) (.tmp 20) rfl w.heap.size v1 _ _ rfl (hid (HO1.out.alloc _)) _ 1 _ [(m : Int)] rfl (hid rfl) (hid (HB.one _ _)) (hid (fun h => by cases h)) (hid (by omega)) w HB0 (below_alloc hb1 HB0.out _) ?_; intro v2 w2 HO2 hb2 HG2; clear HO1 HG2)
    | (at_builtin; refine wpList_app_own rfl (.tmp 41) (.tmp 42) rfl w.heap.size v2 _ _ rfl HO2 co m cc cs rfl HMM (hid (hc.below hb2)) HCO (hid (by omega)) w HB0 hb2 ?_; intro v3 w3 HO3 hb3 HG3; clear HO2 HG3 HCO))
  obtain ⟨a', c', rfl, hlen, hHB, hno, hcap, _⟩ := own_shape HO3.out
  go_ret
  refine ⟨a', c', _, rfl, ?_, ?_, hcap, fun h => ?_, hb3⟩
  · rw [show hl m = 2 by simp [hl, hlt]]
  · rw [hdr_short tag m hlt]; simpa using hHB
  · have := (hno h).1; omega

end Go.Proofs.Qxb6601264a
