/-
  THE PLAIN LAWS OF DER's HEADER: no Go in sight.
-/
namespace Go.Proofs.Qxb6601264a.Plain

/-- the header's size, of n octets of contents -/
def hl (n : Nat) : Nat := if n < 128 then 2 else if n < 256 then 3 else if n < 65536 then 4 else 5

/-- octet i of the header -/
def hb (tag : Int) (n i : Nat) : Int :=
  if i = 0 then tag else if n < 128 then (n : Int) else if i = 1 then ((128 + (hl n - 2) : Nat) : Int) else ((n / 256 ^ (hl n - 1 - i) % 256 : Nat) : Int)

/-- the header -/
def hdr (tag : Int) (n : Nat) : List Int := (List.range (hl n)).map (hb tag n)

/-- the k low octets of n, the greatest first -/
def lb (n : Nat) : Nat → List Int
  | 0 => []
  | k + 1 => ((n / 256 ^ k % 256 : Nat) : Int) :: lb n k

theorem length_lb (n k : Nat) : (lb n k).length = k := by induction k with
  | zero => rfl
  | succ k ih => simp [lb, ih]

theorem length_hdr (tag : Int) (n : Nat) : (hdr tag n).length = hl n := by simp [hdr]

theorem hl_bd (n : Nat) : 2 ≤ hl n ∧ hl n ≤ 5 := by unfold hl; repeat (first | split | omega)

theorem hdr_short (tag : Int) (n : Nat) (h : n < 128) : hdr tag n = [tag, (n : Int)] := by
  have e : hl n = 2 := by simp [hl, h]
  simp [hdr, e, hb, h, List.range_succ]

theorem hdr_one (tag : Int) (n : Nat) (h : 128 ≤ n) (h2 : n < 256) : hdr tag n = tag :: 129 :: lb n 1 := by
  have e : hl n = 3 := by unfold hl; rw [if_neg (by omega), if_pos h2]
  simp [hdr, e, hb, List.range_succ, lb, show ¬ n < 128 by omega]

theorem hdr_two (tag : Int) (n : Nat) (h : 256 ≤ n) (h2 : n < 65536) : hdr tag n = tag :: 130 :: lb n 2 := by
  have e : hl n = 4 := by unfold hl; rw [if_neg (by omega), if_neg (by omega), if_pos h2]
  simp [hdr, e, hb, List.range_succ, lb, show ¬ n < 128 by omega]

theorem hdr_three (tag : Int) (n : Nat) (h : 65536 ≤ n) : hdr tag n = tag :: 131 :: lb n 3 := by
  have e : hl n = 5 := by unfold hl; rw [if_neg (by omega), if_neg (by omega), if_neg (by omega)]
  simp [hdr, e, hb, List.range_succ, lb, show ¬ n < 128 by omega]

/-- all octets -/
def Byt (xs : List Int) : Prop := ∀ i, 0 ≤ xs.getD i 0 ∧ xs.getD i 0 ≤ 255

/-- the number that the first k octets behind place 2 spell -/
def val (xs : List Int) : Nat → Int
  | 0 => 0
  | k + 1 => val xs k * 256 + xs.getD (2 + k) 0

/-- WHAT ReadElement ANSWERS: none, or the header's size and the contents' -/
def rd (tag : Int) (xs : List Int) : Option (Nat × Nat) :=
  if xs.length < 2 then none
  else if xs.getD 0 0 ≠ tag then none
  else if xs.getD 1 0 < 128 then (if (xs.length : Int) - 2 < xs.getD 1 0 then none else some (2, (xs.getD 1 0).toNat))
  else if xs.getD 1 0 - 128 = 0 ∨ 3 < xs.getD 1 0 - 128 ∨ (xs.length : Int) - 2 < xs.getD 1 0 - 128 ∨ xs.getD 2 0 = 0 then none
  else if val xs (xs.getD 1 0 - 128).toNat < 128 ∨ (xs.length : Int) - 2 - (xs.getD 1 0 - 128) < val xs (xs.getD 1 0 - 128).toNat then none
  else some (2 + (xs.getD 1 0 - 128).toNat, (val xs (xs.getD 1 0 - 128).toNat).toNat)

/-- the header of an element of m octets stands at the front, and the contents fit -/
def At (tag : Int) (xs : List Int) (m : Nat) : Prop := hl m + m ≤ xs.length ∧ ∀ i, i < hl m → xs.getD i 0 = hb tag m i


theorem rd_of_at (tag : Int) (xs : List Int) (m : Nat) (hm : m < 16777216) (h : At tag xs m) : rd tag xs = some (hl m, m) := by
  obtain ⟨hlen, hbs⟩ := h
  have b2 := hl_bd m
  have h0 := hbs 0 (by omega)
  have h1 := hbs 1 (by omega)
  rw [hb, if_pos rfl] at h0
  rw [hb, if_neg (by omega)] at h1
  unfold rd
  rw [if_neg (by omega), if_neg (by rw [h0]; simp)]
  by_cases c1 : m < 128
  · have e : hl m = 2 := by simp [hl, c1]
    rw [if_pos c1] at h1
    rw [h1, if_pos (by omega), if_neg (by omega), e]
    simp
  · rw [if_neg c1, if_pos rfl] at h1
    have h2 : 2 < hl m := by unfold hl; repeat (first | split | omega)
    have k2 := hbs 2 h2
    rw [hb, if_neg (by omega), if_neg c1, if_neg (by omega)] at k2
    by_cases c2 : m < 256
    · have e : hl m = 3 := by unfold hl; rw [if_neg c1, if_pos c2]
      rw [e] at h1 k2 hlen
      simp only [Nat.reduceSub, Nat.reduceAdd, Nat.reducePow, Nat.div_one] at h1 k2
      have v1 : val xs 1 = (m : Int) := by simp only [val, Nat.add_zero, k2]; omega
      have t1 : (((129 : Nat) : Int) - 128).toNat = 1 := rfl
      rw [h1, if_neg (by omega), if_neg (by rw [k2]; omega), t1, v1, if_neg (by omega), e]
      simp
    · by_cases c3 : m < 65536
      · have e : hl m = 4 := by unfold hl; rw [if_neg c1, if_neg c2, if_pos c3]
        have k3 := hbs 3 (by omega)
        rw [hb, if_neg (by omega), if_neg c1, if_neg (by omega)] at k3
        rw [e] at h1 k2 k3 hlen
        simp only [Nat.reduceSub, Nat.reduceAdd, Nat.reducePow, Nat.div_one] at h1 k2 k3
        have v1 : val xs 2 = (m : Int) := by simp only [val, Nat.add_zero, Nat.reduceAdd, k2, k3]; omega
        have t1 : (((130 : Nat) : Int) - 128).toNat = 2 := rfl
        rw [h1, if_neg (by omega), if_neg (by rw [k2]; omega), t1, v1, if_neg (by omega), e]
        simp
      · have e : hl m = 5 := by unfold hl; rw [if_neg c1, if_neg c2, if_neg c3]
        have k3 := hbs 3 (by omega)
        have k4 := hbs 4 (by omega)
        rw [hb, if_neg (by omega), if_neg c1, if_neg (by omega)] at k3 k4
        rw [e] at h1 k2 k3 k4 hlen
        simp only [Nat.reduceSub, Nat.reduceAdd, Nat.reducePow, Nat.div_one] at h1 k2 k3 k4
        have v1 : val xs 3 = (m : Int) := by simp only [val, Nat.add_zero, Nat.reduceAdd, k2, k3, k4]; omega
        have t1 : (((131 : Nat) : Int) - 128).toNat = 3 := rfl
        rw [h1, if_neg (by omega), if_neg (by rw [k2]; omega), t1, v1, if_neg (by omega), e]
        simp

theorem at_of_rd (tag : Int) (xs : List Int) (hx : Byt xs) (h m : Nat) (hr : rd tag xs = some (h, m)) : h = hl m ∧ At tag xs m ∧ m < 16777216 := by
  unfold rd at hr
  by_cases a1 : xs.length < 2
  · rw [if_pos a1] at hr; cases hr
  rw [if_neg a1] at hr
  by_cases a2 : xs.getD 0 0 ≠ tag
  · rw [if_pos a2] at hr; cases hr
  rw [if_neg a2] at hr
  have a2' : xs.getD 0 0 = tag := Classical.not_not.1 a2
  have b1 := hx 1
  have b2 := hx 2
  have b3 := hx 3
  have b4 := hx 4
  by_cases a3 : xs.getD 1 0 < 128
  · rw [if_pos a3] at hr
    by_cases a4 : (xs.length : Int) - 2 < xs.getD 1 0
    · rw [if_pos a4] at hr; cases hr
    rw [if_neg a4] at hr
    simp only [Option.some.injEq, Prod.mk.injEq] at hr
    obtain ⟨rfl, hm⟩ := hr
    have e : hl m = 2 := by unfold hl; rw [if_pos (by omega)]
    refine ⟨e.symm, ⟨by omega, fun i hi => ?_⟩, by omega⟩
    rw [e] at hi
    match i, hi with
    | 0, _ => rw [hb, if_pos rfl, a2']
    | 1, _ => rw [hb, if_neg (by omega), if_pos (by omega)]; omega
  rw [if_neg a3] at hr
  by_cases a4 : xs.getD 1 0 - 128 = 0 ∨ 3 < xs.getD 1 0 - 128 ∨ (xs.length : Int) - 2 < xs.getD 1 0 - 128 ∨ xs.getD 2 0 = 0
  · rw [if_pos a4] at hr; cases hr
  rw [if_neg a4] at hr
  by_cases a5 : val xs (xs.getD 1 0 - 128).toNat < 128 ∨ (xs.length : Int) - 2 - (xs.getD 1 0 - 128) < val xs (xs.getD 1 0 - 128).toNat
  · rw [if_pos a5] at hr; cases hr
  rw [if_neg a5] at hr
  simp only [Option.some.injEq, Prod.mk.injEq] at hr
  obtain ⟨hh, hm⟩ := hr
  have hc : (xs.getD 1 0 - 128).toNat = 1 ∨ (xs.getD 1 0 - 128).toNat = 2 ∨ (xs.getD 1 0 - 128).toNat = 3 := by omega
  rcases hc with hc | hc | hc
  · rw [hc] at hm hh a5
    have v : val xs 1 = xs.getD 2 0 := by show (0 : Int) * 256 + xs.getD 2 0 = _; omega
    rw [v] at hm a5
    have e : hl m = 3 := by unfold hl; rw [if_neg (by omega), if_pos (by omega)]
    refine ⟨by omega, ⟨by omega, fun i hi => ?_⟩, by omega⟩
    rw [e] at hi
    match i, hi with
    | 0, _ => rw [hb, if_pos rfl, a2']
    | 1, _ => rw [hb, if_neg (by omega), if_neg (by omega), if_pos rfl, e]; omega
    | 2, _ => rw [hb, if_neg (by omega), if_neg (by omega), if_neg (by omega), e]; simp only [Nat.reduceSub, Nat.reducePow]; omega
  · rw [hc] at hm hh a5
    have v : val xs 2 = xs.getD 2 0 * 256 + xs.getD 3 0 := by show ((0 : Int) * 256 + xs.getD 2 0) * 256 + xs.getD 3 0 = _; omega
    rw [v] at hm a5
    have e : hl m = 4 := by unfold hl; rw [if_neg (by omega), if_neg (by omega), if_pos (by omega)]
    refine ⟨by omega, ⟨by omega, fun i hi => ?_⟩, by omega⟩
    rw [e] at hi
    match i, hi with
    | 0, _ => rw [hb, if_pos rfl, a2']
    | 1, _ => rw [hb, if_neg (by omega), if_neg (by omega), if_pos rfl, e]; omega
    | 2, _ => rw [hb, if_neg (by omega), if_neg (by omega), if_neg (by omega), e]; simp only [Nat.reduceSub, Nat.reducePow]; omega
    | 3, _ => rw [hb, if_neg (by omega), if_neg (by omega), if_neg (by omega), e]; simp only [Nat.reduceSub, Nat.reducePow]; omega
  · rw [hc] at hm hh a5
    have v : val xs 3 = (xs.getD 2 0 * 256 + xs.getD 3 0) * 256 + xs.getD 4 0 := by show (((0 : Int) * 256 + xs.getD 2 0) * 256 + xs.getD 3 0) * 256 + xs.getD 4 0 = _; omega
    rw [v] at hm a5
    have e : hl m = 5 := by unfold hl; rw [if_neg (by omega), if_neg (by omega), if_neg (by omega)]
    refine ⟨by omega, ⟨by omega, fun i hi => ?_⟩, by omega⟩
    rw [e] at hi
    match i, hi with
    | 0, _ => rw [hb, if_pos rfl, a2']
    | 1, _ => rw [hb, if_neg (by omega), if_neg (by omega), if_pos rfl, e]; omega
    | 2, _ => rw [hb, if_neg (by omega), if_neg (by omega), if_neg (by omega), e]; simp only [Nat.reduceSub, Nat.reducePow]; omega
    | 3, _ => rw [hb, if_neg (by omega), if_neg (by omega), if_neg (by omega), e]; simp only [Nat.reduceSub, Nat.reducePow]; omega
    | 4, _ => rw [hb, if_neg (by omega), if_neg (by omega), if_neg (by omega), e]; simp only [Nat.reduceSub, Nat.reducePow]; omega

end Go.Proofs.Qxb6601264a.Plain
