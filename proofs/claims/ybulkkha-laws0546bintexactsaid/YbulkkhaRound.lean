/-
  Plain facts on doubles (Ieee's words): an int64 written as the nearest double: what that double reads as; that it is whole; that it lies within the two ends; that up to 2^53 it is the number itself. No Go in sight. By an AI agent.
-/
import Derived.Test.YbulkkhaIeee
namespace Go.Proofs.Ybulkkha
open Ieee

theorem cut_none_even (neg : Bool) (n : Nat) : Toward.even.cut neg n 0 = n := by
  simp [Toward.cut, Nat.mod_one]
theorem cut_none_zero (neg : Bool) (n : Nat) : Toward.zero.cut neg n 0 = n := by
  simp [Toward.cut]

theorem gap_of {n d : Nat} (h : 2 ^ d ≤ n) : 1 <<< min d (n.log2 + 2) = 2 ^ d := by
  have hn : n ≠ 0 := by have := Nat.two_pow_pos d; omega
  have : d ≤ n.log2 := (Nat.le_log2 hn).2 h
  rw [Nat.min_eq_left (by omega), Nat.shiftLeft_eq, Nat.one_mul]

theorem cut_zero_mul (neg : Bool) (m d : Nat) (hm : 0 < m) : Toward.zero.cut neg (m * 2 ^ d) d = m := by
  have hp := Nat.two_pow_pos d
  have hg := gap_of (n := m * 2 ^ d) (d := d) (Nat.le_mul_of_pos_left _ hm)
  unfold Toward.cut
  dsimp only
  rw [hg, Nat.mul_div_cancel _ hp]
  simp

theorem cut_even_mul (neg : Bool) (m d : Nat) (hm : 0 < m) : Toward.even.cut neg (m * 2 ^ d) d = m := by
  have hp := Nat.two_pow_pos d
  have hg := gap_of (n := m * 2 ^ d) (d := d) (Nat.le_mul_of_pos_left _ hm)
  unfold Toward.cut
  dsimp only
  rw [hg, Nat.mul_div_cancel _ hp, Nat.mul_mod_left]
  simp

theorem cut_even_bounds (neg : Bool) (n d : Nat) (h1 : 4503599627370496 * 2 ^ d ≤ n) (h2 : n < 9007199254740992 * 2 ^ d) :
    4503599627370496 ≤ Toward.even.cut neg n d ∧ Toward.even.cut neg n d ≤ 9007199254740992 := by
  have hp := Nat.two_pow_pos d
  have hg := gap_of (n := n) (d := d) (by omega)
  unfold Toward.cut
  dsimp only
  rw [hg]
  have l1 : 4503599627370496 ≤ n / 2 ^ d := (Nat.le_div_iff_mul_le hp).2 h1
  have l2 : n / 2 ^ d < 9007199254740992 := (Nat.div_lt_iff_lt_mul hp).2 h2
  have b : ∀ x : Bool, x.toNat ≤ 1 := by decide
  generalize (decide (2 ^ d < 2 * (n % 2 ^ d)) || 2 ^ d == 2 * (n % 2 ^ d) && n / 2 ^ d % 2 == 1) = t
  have := b t
  omega

/-- The word of a rung reads as the number that the rung numbers. -/
theorem read_word (neg : Bool) (E K : Nat) (h1 : 4503599627370496 ≤ K) (h2 : K < 9007199254740992) (hE : E ≤ 2000) :
    double.read (double.word neg (E * 4503599627370496 + K)) = .number neg K (-1074 + E) := by
  unfold Format.read Format.word
  rw [d_sign, d_binade, d_inf, d_least]
  dsimp only
  have r1 : (if neg = true then 9223372036854775808 + (E * 4503599627370496 + K) else E * 4503599627370496 + K) % 9223372036854775808 = E * 4503599627370496 + K := by
    split <;> omega
  have r2 : ((if neg = true then 9223372036854775808 + (E * 4503599627370496 + K) else E * 4503599627370496 + K) / 9223372036854775808 % 2 == 1) = neg := by
    cases neg <;> simp <;> omega
  rw [r1, r2, if_neg (by omega), if_pos (by omega)]
  congr 1
  · omega
  · congr 1
    omega

theorem d_frac : double.fractionBits = 52 := rfl

/-- The nearest word of a whole number, spelt out. 'K': what is kept. -/
theorem nearest_form (neg : Bool) (mag L K : Nat) (h1 : 2 ^ L ≤ mag) (h2 : mag < 2 ^ (L + 1)) (hL : L ≤ 63)
    (hK : Toward.even.cut neg (mag <<< ((52 : Int) - L).toNat) ((L : Int) - 52).toNat = K) (hK2 : K ≤ 9007199254740992) :
    double.nearest neg mag 0 = double.word neg ((L + 1022) * 4503599627370496 + K) := by
  have hm : mag ≠ 0 := by have := Nat.two_pow_pos L; omega
  have hl : mag.log2 = L := by
    have a : L ≤ mag.log2 := (Nat.le_log2 hm).2 h1
    have b : mag.log2 < L + 1 := (Nat.log2_lt hm).2 h2
    omega
  have key : (L + 1022) * 4503599627370496 + K ≤ 9218868437227405312 := by omega
  have e1 : max ((0 : Int) + (L : Int) - ((52 : Nat) : Int)) (-1074) = (L : Int) - 52 := by omega
  have e2 : ((0 : Int) - ((L : Int) - 52)).toNat = ((52 : Int) - L).toNat := by omega
  have e3 : ((L : Int) - 52 - 0).toNat = ((L : Int) - 52).toNat := by omega
  have e4 : ((L : Int) - 52 - -1074).toNat = L + 1022 := by omega
  unfold Format.nearest
  rw [if_neg hm, d_binade, d_inf, d_least, d_frac, hl]
  dsimp only
  rw [e1, e2, e3, e4, hK, Nat.min_eq_left key]

/-- What is known of the double of a whole number up to 2^63. -/
structure Whole (neg : Bool) (mag F : Nat) (M : Nat) (p : Int) : Prop where
  reads : double.read F = .number neg M p
  lo : 4503599627370496 ≤ M
  hi : M < 9007199254740992
  least : -52 ≤ p
  most : p ≤ 10 ∨ (p = 11 ∧ M = 4503599627370496)
  whole : double.write ((Datum.number neg M p).integral .zero) = F
  same : mag ≤ 9007199254740992 → (Datum.number neg M p).integral .zero = .number neg mag 0

theorem whole_small (neg : Bool) (mag L : Nat) (h1 : 2 ^ L ≤ mag) (h2 : mag < 2 ^ (L + 1)) (hL : L ≤ 52) :
    Whole neg mag (double.nearest neg mag 0) (mag * 2 ^ (52 - L)) ((L : Int) - 52) := by
  have hp := Nat.two_pow_pos (52 - L)
  have hm : 0 < mag := by have := Nat.two_pow_pos L; omega
  have a1 : 2 ^ L * 2 ^ (52 - L) = 4503599627370496 := by rw [← Nat.pow_add, Nat.add_sub_cancel' hL]
  have a2 : 2 ^ (L + 1) * 2 ^ (52 - L) = 9007199254740992 := by
    rw [Nat.pow_succ, Nat.mul_right_comm, a1]
  have lo : 4503599627370496 ≤ mag * 2 ^ (52 - L) := by rw [← a1]; exact Nat.mul_le_mul_right _ h1
  have hi : mag * 2 ^ (52 - L) < 9007199254740992 := by rw [← a2]; exact Nat.mul_lt_mul_of_pos_right h2 hp
  have hn := nearest_form neg mag L (mag * 2 ^ (52 - L)) h1 h2 (by omega) (by
    rw [show ((52 : Int) - L).toNat = 52 - L by omega, show ((L : Int) - 52).toNat = 0 by omega, cut_none_even, Nat.shiftLeft_eq]) (by omega)
  have hi' : (Datum.number neg (mag * 2 ^ (52 - L)) ((L : Int) - 52)).integral .zero = .number neg mag 0 := by
    simp only [Datum.integral]
    rw [show ((L : Int) - 52).toNat = 0 by omega, show (-((L : Int) - 52)).toNat = 52 - L by omega, Nat.shiftLeft_zero, cut_zero_mul _ _ _ hm]
  refine ⟨?_, lo, hi, by omega, by omega, ?_, fun _ => hi'⟩
  · rw [hn, read_word neg _ _ lo hi (by omega), show ((-1074 : Int) + ((L + 1022 : Nat) : Int)) = (L : Int) - 52 from by omega]
  · rw [hi']
    rfl

/-- A number that is a multiple of its last kept place is written as it stands. -/
theorem nearest_mul (neg : Bool) (M d : Nat) (h1 : 4503599627370496 ≤ M) (h2 : M < 9007199254740992) (hd : d ≤ 11) :
    double.nearest neg (M * 2 ^ d) 0 = double.word neg ((d + 1074) * 4503599627370496 + M) := by
  have hp := Nat.two_pow_pos d
  have b1 : 2 ^ (d + 52) = 4503599627370496 * 2 ^ d := by rw [Nat.add_comm, Nat.pow_add]
  have b2 : 2 ^ (d + 52 + 1) = 9007199254740992 * 2 ^ d := by rw [Nat.pow_succ, b1]; omega
  have := nearest_form neg (M * 2 ^ d) (d + 52) M (by rw [b1]; exact Nat.mul_le_mul_right _ h1) (by rw [b2]; exact Nat.mul_lt_mul_of_pos_right h2 hp) (by omega) (by
    rw [show ((52 : Int) - (d + 52 : Nat)).toNat = 0 by omega, show (((d + 52 : Nat) : Int) - 52).toNat = d by omega, Nat.shiftLeft_zero, cut_even_mul _ _ _ (by omega)]) (by omega)
  rw [this]

theorem integral_up (neg : Bool) (M d : Nat) : (Datum.number neg M (d : Int)).integral .zero = .number neg (M * 2 ^ d) 0 := by
  simp only [Datum.integral]
  rw [show (d : Int).toNat = d by omega, show (-(d : Int)).toNat = 0 by omega, cut_none_zero, Nat.shiftLeft_eq]

theorem whole_great (neg : Bool) (mag d : Nat) (hd0 : 0 < d) (hd : d ≤ 11) (h1 : 2 ^ (d + 52) ≤ mag) (h2 : mag < 2 ^ (d + 53)) (hmax : mag ≤ 9223372036854775808) :
    ∃ M p, Whole neg mag (double.nearest neg mag 0) M p := by
  have hp := Nat.two_pow_pos d
  have b1 : 2 ^ (d + 52) = 4503599627370496 * 2 ^ d := by rw [Nat.add_comm, Nat.pow_add]
  have b2 : 2 ^ (d + 53) = 9007199254740992 * 2 ^ d := by rw [Nat.add_comm, Nat.pow_add]
  have hb := cut_even_bounds neg mag d (by omega) (by omega)
  have hn := nearest_form neg mag (d + 52) (Toward.even.cut neg mag d) h1 h2 (by omega) (by
    rw [show ((52 : Int) - (d + 52 : Nat)).toNat = 0 by omega, show (((d + 52 : Nat) : Int) - 52).toNat = d by omega, Nat.shiftLeft_zero]) (by omega)
  have h11 : d = 11 → mag = 4503599627370496 * 2 ^ 11 := by
    rintro rfl
    omega
  have ex : mag ≤ 9007199254740992 → mag = 4503599627370496 * 2 ^ 1 ∧ d = 1 := by
    intro h
    have : d = 1 := by
      by_cases e : d = 1
      · exact e
      · have : 2 ^ 2 ≤ 2 ^ d := Nat.pow_le_pow_right (by omega) (by omega)
        omega
    subst this
    omega
  generalize hK : Toward.even.cut neg mag d = K at hn hb
  obtain ⟨k1, k2⟩ := hb
  by_cases hk : K = 9007199254740992
  · -- the carry: the next binade's first number
    subst hk
    have hd10 : d ≤ 10 := by
      by_cases e : d = 11
      · have := h11 e
        subst e
        rw [this, cut_even_mul _ _ _ (by omega)] at hK
        omega
      · omega
    have hx : ¬ mag ≤ 9007199254740992 := by
      intro h
      obtain ⟨e1, e2⟩ := ex h
      subst e2
      rw [e1, cut_even_mul _ _ _ (by omega)] at hK
      omega
    have hw : double.nearest neg mag 0 = double.word neg ((d + 1 + 1074) * 4503599627370496 + 4503599627370496) := by
      rw [hn, show (d + 52 + 1022) * 4503599627370496 + 9007199254740992 = (d + 1 + 1074) * 4503599627370496 + 4503599627370496 from by omega]
    refine ⟨4503599627370496, ((d + 1 : Nat) : Int), ?_, by omega, by omega, by omega, by omega, ?_, fun h => absurd h hx⟩
    · rw [hw, read_word neg _ _ (by omega) (by omega) (by omega), show ((-1074 : Int) + ((d + 1 + 1074 : Nat) : Int)) = ((d + 1 : Nat) : Int) from by omega]
    · rw [integral_up, hw]
      exact nearest_mul neg _ _ (by omega) (by omega) (by omega)
  · have hw : double.nearest neg mag 0 = double.word neg ((d + 1074) * 4503599627370496 + K) := by
      rw [hn]
    have hM : d = 11 → K = 4503599627370496 := by
      intro e
      have := h11 e
      subst e
      rw [this, cut_even_mul _ _ _ (by omega)] at hK
      omega
    refine ⟨K, (d : Int), ?_, k1, by omega, by omega, by omega, ?_, ?_⟩
    · rw [hw, read_word neg _ _ k1 (by omega) (by omega), show ((-1074 : Int) + ((d + 1074 : Nat) : Int)) = (d : Int) from by omega]
    · rw [integral_up, hw]
      exact nearest_mul neg _ _ k1 (by omega) (by omega)
    · intro h
      obtain ⟨e1, e2⟩ := ex h
      subst e2
      rw [e1, cut_even_mul _ _ _ (by omega)] at hK
      rw [integral_up, ← hK, e1]

theorem whole_any (neg : Bool) (mag : Nat) (h0 : 0 < mag) (hmax : mag ≤ 9223372036854775808) : ∃ M p, Whole neg mag (double.nearest neg mag 0) M p := by
  have hm : mag ≠ 0 := by omega
  have h1 : 2 ^ mag.log2 ≤ mag := Nat.log2_self_le hm
  have h2 : mag < 2 ^ (mag.log2 + 1) := Nat.lt_log2_self
  have hL : mag.log2 < 64 := (Nat.log2_lt hm).2 (by omega)
  by_cases hs : mag.log2 ≤ 52
  · exact ⟨_, _, whole_small neg mag _ h1 h2 hs⟩
  · obtain ⟨d, hd⟩ : ∃ d, mag.log2 = d + 52 := ⟨mag.log2 - 52, by omega⟩
    rw [hd] at h1 h2 hL
    exact whole_great neg mag d (by omega) (by omega) h1 h2 hmax

theorem cmp_not_lt {a b : Int} (h : b ≤ a) : (some (compare a b) == some Ordering.lt) = false := by
  show (some (compareOfLessAndEq a b) == some Ordering.lt) = false
  unfold compareOfLessAndEq
  rw [if_neg (by omega)]
  split <;> rfl
theorem cmp_not_gt {a b : Int} (h : a ≤ b) : (some (compare a b) == some Ordering.gt) = false := by
  show (some (compareOfLessAndEq a b) == some Ordering.gt) = false
  unfold compareOfLessAndEq
  split
  · rfl
  · rw [if_pos (by omega)]; rfl

theorem signed_bounds (s : Bool) (m : Nat) : -(m : Int) ≤ signed s m 0 ∧ signed s m 0 ≤ m := by
  unfold signed
  rw [Nat.shiftLeft_zero]
  split <;> omega
theorem signed_neg (m u : Nat) : signed true m u = -((m * 2 ^ u : Nat) : Int) := by
  unfold signed; rw [if_pos rfl, Nat.shiftLeft_eq]
theorem signed_pos (m u : Nat) : signed false m u = ((m * 2 ^ u : Nat) : Int) := by
  unfold signed; rw [if_neg (by simp), Nat.shiftLeft_eq]

section
variable {neg : Bool} {mag F M : Nat} {p : Int}

theorem Whole.self (h : Whole neg mag F M p) : (double.order F F != some .eq) = false := by
  unfold Format.order
  rw [h.reads]
  simp [Datum.order]

/-- The size of 2^63, at the last place of the smaller one. -/
theorem Whole.under (h : Whole neg mag F M p) : p ≤ 11 ∧ M ≤ 4503599627370496 * 2 ^ (11 - p).toNat := by
  refine ⟨by have := h.most; omega, ?_⟩
  rcases h.most with h1 | ⟨h1, h2⟩
  · obtain ⟨k, hk⟩ : ∃ k : Nat, (11 - p).toNat = k + 1 := ⟨(10 - p).toNat, by omega⟩
    rw [hk, Nat.pow_succ]
    have := Nat.two_pow_pos k
    have := h.hi
    omega
  · rw [h1, h2]
    decide

theorem read_low : double.read 14114281232179134464 = .number true 4503599627370496 11 := by decide
theorem read_high : double.read 4890909195324358656 = .number false 4503599627370496 11 := by decide

theorem Whole.not_below (h : Whole neg mag F M p) : (double.order F 14114281232179134464 == some .lt) = false := by
  obtain ⟨h1, h2⟩ := h.under
  unfold Format.order
  rw [h.reads, read_low]
  simp only [Datum.order]
  apply cmp_not_lt
  have hb := signed_bounds neg M
  rw [show (p - min p 11).toNat = 0 from by omega, show (11 - min p 11) = 11 - p from by omega, signed_neg]
  omega

theorem Whole.not_above (h : Whole neg mag F M p) : (double.order F 4890909195324358656 == some .gt) = false := by
  obtain ⟨h1, h2⟩ := h.under
  unfold Format.order
  rw [h.reads, read_high]
  simp only [Datum.order]
  apply cmp_not_gt
  have hb := signed_bounds neg M
  rw [show (p - min p 11).toNat = 0 from by omega, show (11 - min p 11) = 11 - p from by omega, signed_pos]
  omega

theorem Whole.not_zero (h : Whole neg mag F M p) : (double.order F 0 == some .eq) = false := by
  unfold Format.order
  rw [h.reads, read_zero, order_zero_num]
  have := h.lo
  simp
  omega

theorem Whole.toInt (h : Whole neg mag F M p) (hm : mag ≤ 9007199254740992) : (double.read F).toInt .zero = some (signed neg mag 0) := by
  unfold Datum.toInt
  rw [h.reads, h.same hm]
end
end Go.Proofs.Ybulkkha
