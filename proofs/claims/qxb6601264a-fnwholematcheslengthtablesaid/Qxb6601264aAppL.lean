/-
  THE CONTRACT OF der.Append (function 18), of 128 octets and more.
-/
import Derived.Test.Qxb6601264aApp
namespace Go.Proofs.Qxb6601264a
open Go.RowKit Plain

theorem lb_step (m k q : Nat) (hq : q = m / 256 ^ k) : [(q : Int) % 256] ++ lb m k = lb m (k + 1) := by
  subst hq
  simp [lb]

theorem k_step (m k q : Nat) (hk : k ≤ 3) (hm : m ≤ 4194304) (hq : q = m / 256 ^ k) (hpos : 0 < q) : k + 1 ≤ 3 ∧ q / 256 = m / 256 ^ (k + 1) ∧ (k + 1 = 0 ∨ 256 ^ (k + 1 - 1) ≤ m) := by
  have hle : 256 ^ k ≤ m := by
    by_cases h : m < 256 ^ k
    · rw [Nat.div_eq_of_lt h] at hq; omega
    · omega
  refine ⟨?_, ?_, .inr (by simpa using hle)⟩
  · by_cases h3 : k = 3
    · subst h3; simp at hle; omega
    · omega
  · rw [hq, Nat.div_div_eq_div_mul, Nat.pow_succ]

theorem k_end (tag : Int) (m k q : Nat) (hlt : ¬ m < 128) (hm : m ≤ 4194304) (hk : k ≤ 3) (hq : q = m / 256 ^ k) (hpos : ¬ 0 < q) (HK : k = 0 ∨ 256 ^ (k - 1) ≤ m) :
    (k = 1 ∨ k = 2 ∨ k = 3) ∧ hl m = k + 2 ∧ hdr tag m = tag :: ((128 + k : Nat) : Int) :: lb m k := by
  have hq0 : m / 256 ^ k = 0 := by omega
  have hlt' : m < 256 ^ k := by
    have := (Nat.div_eq_zero_iff (a := m) (b := 256 ^ k)).1 hq0
    have hp : 0 < 256 ^ k := Nat.pow_pos (by decide)
    omega
  match k, hk with
  | 0, _ => simp at hlt'; omega
  | 1, _ => simp at hlt'; exact ⟨.inl rfl, by unfold hl; rw [if_neg hlt, if_pos (by omega)], hdr_one tag m (by omega) (by omega)⟩
  | 2, _ => simp at hlt' HK; exact ⟨.inr (.inl rfl), by unfold hl; rw [if_neg hlt, if_neg (by omega), if_pos (by omega)], hdr_two tag m (by omega) (by omega)⟩
  | 3, _ => simp at HK; exact ⟨.inr (.inr rfl), by unfold hl; rw [if_neg hlt, if_neg (by omega), if_neg (by omega)], hdr_three tag m (by omega)⟩

theorem own_below {w1 wr : World} {B n : Nat} {v : Value} {xs : List Value} (h : w1.ownsRow B 5 1 v n xs) (hb : Below w1.heap.size w1 wr) : wr.ownsRow B 5 1 v n xs :=
  h.kept (row := none) ⟨hb.os, hb.tape, hb.output, hb.size, fun k hk _ => hb.block k hk⟩ (by cases v.ownBlock <;> simp)

set_option maxRecDepth 100000 in
set_option maxHeartbeats 1000000 in
theorem app_long (ao co : Option Addr) (n m cc : Nat) (tag : Int) (bs cs : List Int) (w : World) (hn : n = bs.length) (hm : m = cs.length) (hb : HB w ao bs) (hao : ao = none → n = 0) (hc : HB w co cs) (hco : co = none → m = 0 ∧ cc = 0)
    (hnb : n ≤ 4194304) (hlt : ¬ m < 128) (hmb : m ≤ 4194304) :
    Calls Try.prog 18 #[.slice ao n n, .int .u8 tag, .slice co m cc] w fun e w' =>
      ∃ a' c' N, e = .returned (.slice a' N c') ∧ N = n + hl m + m ∧ HB w' a' (bs ++ hdr tag m ++ cs) ∧ N ≤ c' ∧ (a' = none → False) ∧ Below w.heap.size w w' := by
  have HN := hid hn
  have HMM := hid hm
  have HCO := hid hco
  have HAO := hid hao
  clear hn hm hco hao
  go_enter Try.func18, Try.ntmps18
  have HB0 : Hid (w.heap.size ≤ w.heap.size) := Nat.le_refl _
  go_wp2_with (first
    | (at_builtin; refine wpList_app_full rfl (.tmp 9) (.tmp 11) rfl ao n bs rfl HN (hid (hb.below ((Below.refl _ _).alloc (Nat.le_refl _) _))) HAO _ 1 _ [tag] rfl (hid rfl) (hid (HB.one _ _)) (hid (by decide)) (hid (by omega)) w.heap.size w HB0 ((Below.refl _ _).alloc (Nat.le_refl _) _) ?_; intro v1 w1 HO1 hb1; clear HAO))
  go_loopw [7, 8] (fun i v wr => ∃ k q : Nat, k ≤ 3 ∧ q ≤ 4194304 ∧ i = .int .i64 (q : Int) ∧ Hid (q = m / 256 ^ k) ∧ Hid (k = 0 ∨ 256 ^ (k - 1) ≤ m) ∧ Hid (wr.ownsRow w1.heap.size 5 1 v k (cl (lb m k))) ∧ Below w1.heap.size w1 wr) (fun i _ _ => (intOf i).toNat)
  case atStart => exact ⟨0, m, by omega, hmb, rfl, hid (by simp), hid (.inl rfl), hid (World.ownsRow_nil _ _ _ _), Below.refl _ _⟩
  case round =>
    obtain ⟨k, q, hk, hqb, rfl, HQ, HK, HL, hbr⟩ := hrel
    obtain ⟨al, cl', rfl, hkl, hHL, hal, _, _⟩ := own_shape HL.out
    have HKL := hid hkl
    have HHL := hid hHL
    have HAL := hid hal
    clear hkl hHL hal
    by_cases hpos : 0 < q
    · have HS : Hid (w1.heap.size ≤ wr.heap.size) := hbr.size
      go_wp2_with (at_builtin; refine wpList_app_own rfl (.tmp 28) (.tmp 29) rfl w1.heap.size _ 1 [(q : Int) % 256] rfl (hid (own_one _ _ _ HS.out)) al k cl' (lb m k) rfl HKL (hid (HHL.out.below ((Below.refl _ _).alloc (Nat.le_refl _) _))) HAL (hid (by omega)) w1 (hid (Nat.le_refl _)) (below_alloc hbr (Nat.le_refl _) _) ?_; intro v2 w2 HO2 hb2 HG2)
      go_roundw
      case rel =>
        have hst := k_step m k q hk hmb HQ.out hpos
        refine ⟨k + 1, q / 256, hst.1, by omega, by go_num, hst.2.1, hst.2.2, ?_, hb2⟩
        rw [← lb_step m k q HQ.out, Nat.add_comm k 1]
        exact HO2
      case measure => simp [intOf]; omega
    · obtain ⟨hk3, hhl, hhd⟩ := k_end tag m k q hlt hmb hk HQ.out hpos HK.out
      have HHL1 := hid hhl
      have HHD := hid hhd
      have HOr := hid (own_below HO1.out hbr)
      have hbw : Below w.heap.size w wr := hb1.trans (hbr.mono hb1.size)
      have HNE : Hid (∀ b off, al = some ⟨b, off, none⟩ → some b ≠ v1.ownBlock) := by
        intro b off e e2
        have h1 := (HL.out.lt b (by rw [e]; rfl)).1
        have h2 := (HO1.out.lt b e2.symm).2
        omega
      have HS : Hid (w.heap.size ≤ w.heap.size) := Nat.le_refl _
      have hq0 : q = 0 := by omega
      subst hq0
      clear hhl hhd HL HO1 hb1 hbr HK HQ hpos hk hb
      rcases hk3 with rfl | rfl | rfl
      all_goals
        go_wp2_with (first
          | (at_builtin; refine wpList_app_own rfl (.tmp 31) (.tmp 36) rfl w.heap.size v1 _ _ rfl (hid (HOr.out.alloc _)) _ 1 _ [_] rfl (hid rfl) (hid (HB.one _ _)) (hid (fun h => by cases h)) (hid (by omega)) w HS (below_alloc hbw HS.out _) ?_; intro v2 w2 HO2 hb2 HG2; have HL2 := hid (HB.grown (HHL.out.below ((Below.refl _ _).alloc (Nat.le_refl _) _)) HG2.out HNE.out); clear HG2 HOr hbw HHL)
          | (at_builtin; refine wpList_app_own rfl (.tmp 38) (.tmp 39) rfl w.heap.size v2 _ _ rfl HO2 al _ cl' _ rfl HKL HL2 HAL (hid (by omega)) w HS hb2 ?_; intro v3 w3 HO3 hb3 HG3; clear HG3 HO2 hb2 HL2 HKL HAL)
          | (at_builtin; refine wpList_app_own rfl (.tmp 41) (.tmp 42) rfl w.heap.size v3 _ _ rfl HO3 co m cc cs rfl HMM (hid (hc.below hb3)) HCO (hid (by omega)) w HS hb3 ?_; intro v4 w4 HO4 hb4 HG4; clear HO3 HG4 HCO))
        obtain ⟨a', c', rfl, hlen, hHB, hno, hcap, _⟩ := own_shape HO4.out
        go_ret
        refine ⟨a', c', _, rfl, ?_, ?_, hcap, fun h => ?_, hb4⟩
        · rw [HHL1.out]
        · rw [HHD.out]; simpa using hHB
        · have := (hno h).1; omega

/-- der.Append: the header from the table, then the contents, behind what came in -/
theorem app_any (ao co : Option Addr) (n m cc : Nat) (tag : Int) (bs cs : List Int) (w : World) (hn : n = bs.length) (hm : m = cs.length) (hb : HB w ao bs) (hao : ao = none → n = 0) (hc : HB w co cs) (hco : co = none → m = 0 ∧ cc = 0)
    (hnb : n ≤ 4194304) (hmb : m ≤ 4194304) :
    Calls Try.prog 18 #[.slice ao n n, .int .u8 tag, .slice co m cc] w fun e w' =>
      ∃ a' c' N, e = .returned (.slice a' N c') ∧ N = n + hl m + m ∧ HB w' a' (bs ++ hdr tag m ++ cs) ∧ N ≤ c' ∧ (a' = none → False) ∧ Below w.heap.size w w' := by
  by_cases h : m < 128
  · exact app_short ao co n m cc tag bs cs w hn hm hb hao hc hco hnb h
  · exact app_long ao co n m cc tag bs cs w hn hm hb hao hc hco hnb h hmb

end Go.Proofs.Qxb6601264a
