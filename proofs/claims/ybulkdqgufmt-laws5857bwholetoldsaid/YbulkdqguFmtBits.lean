/-
  PLAIN LAWS: what math.Round, math.Abs, math.Copysign do to a double's bits.
-/
import Derived.Test.YbulkdqguFmtOrder
import Derived.Laws.BitsAllLaws
namespace Go.Proofs.YbulkdqguFmt
open Ieee

theorem sign_cases (s : Bool) (r : Nat) : (s = false ∧ wd s r = r) ∨ (s = true ∧ wd s r = 9223372036854775808 + r) := by
  rw [wd_eq]
  cases s
  · left; simp
  · right; simp

/-- The exponent field. -/
theorem exp_bits (s : Bool) {E F : Nat} (hE : E ≤ 1070) (hF : F < 4503599627370496) : bits .and .u64 ((wd s (E * 4503599627370496 + F) : Int) / 4503599627370496) 2047 = (E : Int) := by
  have hl : wd s (E * 4503599627370496 + F) < 18446744073709551616 := wd_lt (by omega)
  have e : ((wd s (E * 4503599627370496 + F) : Int) / 4503599627370496) = ((wd s (E * 4503599627370496 + F) / 4503599627370496 : Nat) : Int) := by omega
  rw [e, show (2047 : Int) = ((2047 : Nat) : Int) from rfl, u64_and_nat _ _ (by omega) (by omega)]
  have h := Nat.and_two_pow_sub_one_eq_mod (wd s (E * 4503599627370496 + F) / 4503599627370496) 11
  have h2 : (2 : Nat) ^ 11 = 2048 := rfl
  rw [h2] at h
  rw [show (2047 : Nat) = 2048 - 1 from rfl, h]
  rcases sign_cases s (E * 4503599627370496 + F) with ⟨_, e1⟩ | ⟨_, e1⟩ <;> rw [e1] <;> omega

/-- The sign bit alone. -/
theorem sign_bits (s : Bool) {r : Nat} (hr : r < 9223372036854775808) : bits .and .u64 (wd s r : Int) 9223372036854775808 = ((wd s 0 : Nat) : Int) := by
  rw [show (9223372036854775808 : Int) = ((9223372036854775808 : Nat) : Int) from rfl, u64_and_nat _ _ (wd_lt hr) (by omega)]
  have h := nat_bit 63 (wd s r)
  have h2 : (2 : Nat) ^ 63 = 9223372036854775808 := rfl
  rw [h2] at h
  rw [h]
  rcases sign_cases s r with ⟨hs, e1⟩ | ⟨hs, e1⟩ <;> subst hs <;> rw [e1, wd_eq] <;> simp <;> omega

/-- All but the sign bit. -/
theorem abs_bits (s : Bool) {r : Nat} (hr : r < 9223372036854775808) : bits .andNot .u64 (wd s r : Int) 9223372036854775808 = (r : Int) := by
  rw [show (9223372036854775808 : Int) = ((9223372036854775808 : Nat) : Int) from rfl, u64_andNot_nat _ _ (wd_lt hr) (by omega)]
  have h := Nat.and_two_pow_sub_one_eq_mod (wd s r) 63
  have h2 : (2 : Nat) ^ 63 = 9223372036854775808 := rfl
  rw [h2] at h
  rw [show (18446744073709551615 - 9223372036854775808 : Nat) = 9223372036854775808 - 1 from rfl, h]
  rcases sign_cases s r with ⟨_, e1⟩ | ⟨_, e1⟩ <;> rw [e1] <;> omega

/-- The sign bit joined to a rung. -/
theorem join_bits (s : Bool) {r : Nat} (hr : r < 9223372036854775808) : bits .or .u64 (wd s 0 : Int) (r : Int) = ((wd s r : Nat) : Int) := by
  rw [u64_or_nat _ _ (wd_lt (by omega)) (by omega)]
  rw [nat_join 63 _ _ (by rcases sign_cases s 0 with ⟨_, e1⟩ | ⟨_, e1⟩ <;> rw [e1] <;> rfl) hr]
  rcases sign_cases s r with ⟨hs, e1⟩ | ⟨hs, e1⟩ <;> subst hs <;> rw [e1, wd_eq] <;> simp

theorem join_bits' (s : Bool) {r : Nat} (hr : r < 9223372036854775808) : bits .or .u64 (r : Int) (wd s 0 : Int) = ((wd s r : Nat) : Int) := by
  rw [u64_or_nat _ _ (by omega) (wd_lt (by omega)), Nat.or_comm, ← u64_or_nat _ _ (wd_lt (by omega)) (by omega)]
  exact join_bits s hr

/-- The lower k bits struck. -/
theorem strike (x k : Nat) (hx : x < 2 ^ 64) (hk : k ≤ 64) : x &&& (2 ^ 64 - 2 ^ k) = x / 2 ^ k * 2 ^ k := by
  have e : 2 ^ 64 - 2 ^ k = 2 ^ k * (2 ^ (64 - k) - 1) := by
    rw [Nat.mul_sub, ← Nat.pow_add, show k + (64 - k) = 64 by omega, Nat.mul_one]
  rw [e, Nat.mul_comm (x / 2 ^ k)]
  apply Nat.eq_of_testBit_eq
  intro i
  rw [Nat.testBit_and, Nat.testBit_two_pow_mul, Nat.testBit_two_pow_mul, Nat.testBit_two_pow_sub_one, Nat.testBit_div_two_pow]
  by_cases hi : k ≤ i
  · rw [show i - k + k = i by omega]
    by_cases h64 : i < 64
    · have : i - k < 64 - k := by omega
      simp [hi, this]
    · have : x.testBit i = false := Nat.testBit_lt_two_pow (Nat.lt_of_lt_of_le hx (Nat.pow_le_pow_right (by omega) (by omega)))
      simp [this]
  · simp [hi]

theorem roundQ_small {E F : Nat} (hF : F < 4503599627370496) (hE : E < 1022) : roundQ E F = 0 := by
  have hq := truncQ_zero E F hF (by omega)
  have hleft : leftQ E F ≤ 4503599627370496 + F := by unfold leftQ; exact Nat.mod_le _ _
  have := pow_big (1074 - E) (by omega)
  rw [round_low E F (by omega) (by omega), hq]

theorem roundQ_half {F : Nat} (hF : F < 4503599627370496) : roundQ 1022 F = 1 := by
  have hq := truncQ_zero 1022 F hF (by omega)
  have hleft : leftQ 1022 F = 4503599627370496 + F := by
    have := Nat.div_add_mod (4503599627370496 + F) (2 ^ (1075 - 1022))
    unfold truncQ at hq
    rw [hq, Nat.mul_zero, Nat.zero_add] at this
    exact this
  have e : (2 : Nat) ^ (1074 - 1022) = 4503599627370496 := rfl
  rw [round_high 1022 F (by omega) (by rw [hleft, e]; omega), hq]

/-- The nearest whole number's rung, off the number's own. -/
theorem rung_round {E F : Nat} (hF : F < 4503599627370496) (h1 : 1023 ≤ E) (h2 : E ≤ 1070) : rungOf (roundQ E F) = (E - 1) * 4503599627370496 + roundQ E F * 2 ^ (1075 - E) := by
  obtain ⟨hq0, hql⟩ := truncQ_log E F hF h1 h2
  obtain ⟨b1, b2⟩ := log2_bounds hq0
  rw [hql] at b1 b2
  have hQ : roundQ E F = truncQ E F ∨ roundQ E F = truncQ E F + 1 := by
    by_cases hl : leftQ E F < 2 ^ (1074 - E)
    · left; exact round_low E F (by omega) hl
    · right; exact round_high E F (by omega) (by omega)
  have hpos := Nat.two_pow_pos (E - 1023)
  have hQ0 : roundQ E F ≠ 0 := by omega
  unfold rungOf
  rw [if_neg hQ0]
  by_cases hlt : roundQ E F < 2 ^ (E - 1023 + 1)
  · have hlog : (roundQ E F).log2 = E - 1023 := (Nat.log2_eq_iff hQ0).2 ⟨by omega, hlt⟩
    rw [hlog, show E - 1023 + 1022 = E - 1 by omega, show 52 - (E - 1023) = 1075 - E by omega]
  · have hQe : roundQ E F = 2 ^ (E - 1023 + 1) := by omega
    have hlog : (roundQ E F).log2 = E - 1023 + 1 := by rw [hQe, Nat.log2_two_pow]
    rw [hlog, hQe, ← Nat.pow_add, ← Nat.pow_add, show E - 1023 + 1 + (52 - (E - 1023 + 1)) = 52 by omega, show E - 1023 + 1 + (1075 - E) = 53 by omega]
    have e1 : (2 : Nat) ^ 52 = 4503599627370496 := rfl
    have e2 : (2 : Nat) ^ 53 = 9007199254740992 := rfl
    generalize (2 : Nat) ^ 52 = X at e1 ⊢
    generalize (2 : Nat) ^ 53 = Y at e2 ⊢
    omega

theorem roundQ_lt {E F : Nat} (hF : F < 4503599627370496) (h2 : E ≤ 1070) : roundQ E F ≤ 281474976710656 := by
  have hQ : roundQ E F ≤ truncQ E F + 1 := by
    by_cases hl : leftQ E F < 2 ^ (1074 - E)
    · rw [round_low E F (by omega) hl]; omega
    · rw [round_high E F (by omega) (by omega)]; exact Nat.le_refl _
  have ht : truncQ E F < 281474976710656 := by
    unfold truncQ
    rw [Nat.div_lt_iff_lt_mul (Nat.two_pow_pos _)]
    have : 2 ^ 5 ≤ 2 ^ (1075 - E) := Nat.pow_le_pow_right (by omega) (by omega)
    have e : (2 : Nat) ^ 5 = 32 := rfl
    omega
  omega

theorem truncQ_le {E F : Nat} (hF : F < 4503599627370496) (h2 : E ≤ 1070) : truncQ E F ≤ 281474976710656 := by
  unfold truncQ
  refine Nat.le_of_lt ?_
  rw [Nat.div_lt_iff_lt_mul (Nat.two_pow_pos _)]
  have : 2 ^ 5 ≤ 2 ^ (1075 - E) := Nat.pow_le_pow_right (by omega) (by omega)
  have e : (2 : Nat) ^ 5 = 32 := rfl
  omega

theorem half_shift {E : Nat} (h1 : 1023 ≤ E) (h2 : E ≤ 1070) : 2251799813685248 / 2 ^ (E - 1023) = 2 ^ (1074 - E) := by
  have e : (2251799813685248 : Nat) = 2 ^ (1074 - E) * 2 ^ (E - 1023) := by
    rw [← Nat.pow_add, show 1074 - E + (E - 1023) = 51 by omega]
  rw [e, Nat.mul_div_cancel _ (Nat.two_pow_pos _)]

theorem mask_shift {E : Nat} (h1 : 1023 ≤ E) (h2 : E ≤ 1070) : 4503599627370495 / 2 ^ (E - 1023) = 2 ^ (1075 - E) - 1 := by
  have hp := Nat.two_pow_pos (E - 1023)
  have hp2 := Nat.two_pow_pos (1075 - E)
  have e : 2 ^ (1075 - E) * 2 ^ (E - 1023) = 4503599627370496 := by
    rw [← Nat.pow_add, show 1075 - E + (E - 1023) = 52 by omega]
  rw [Nat.div_eq_iff hp]
  have : (2 ^ (1075 - E) - 1) * 2 ^ (E - 1023) = 4503599627370496 - 2 ^ (E - 1023) := by rw [Nat.sub_mul, e, Nat.one_mul]
  rw [this]
  have hle : 2 ^ (E - 1023) ≤ 4503599627370496 := by rw [← e]; exact Nat.le_mul_of_pos_left _ hp2
  omega

/-- math.Round at 1 and above, on the bits. -/
theorem round_bits (s : Bool) {E F : Nat} (hF : F < 4503599627370496) (h1 : 1023 ≤ E) (h2 : E ≤ 1070) :
    bits .andNot .u64 (IntKind.u64.wrap ((wd s (E * 4503599627370496 + F) : Int) + 2251799813685248 / 2 ^ (E - 1023))) (4503599627370495 / 2 ^ (E - 1023)) = ((wd s (rungOf (roundQ E F)) : Nat) : Int) := by
  have c1 : (2251799813685248 : Int) / 2 ^ (E - 1023) = ((2 ^ (1074 - E) : Nat) : Int) := by
    rw [← half_shift h1 h2]; simp
  have c2 : (4503599627370495 : Int) / 2 ^ (E - 1023) = ((2 ^ (1075 - E) - 1 : Nat) : Int) := by
    rw [← mask_shift h1 h2]; simp
  have hh : 2 ^ (1074 - E) ≤ 2251799813685248 := by rw [← half_shift h1 h2]; exact Nat.div_le_self _ _
  have hd := pow_double E (by omega)
  have hp := Nat.two_pow_pos (1075 - E)
  have hx : wd s (E * 4503599627370496 + F) + 2 ^ (1074 - E) < 18446744073709551616 := by
    rcases sign_cases s (E * 4503599627370496 + F) with ⟨_, e1⟩ | ⟨_, e1⟩ <;> rw [e1] <;> omega
  have hw : IntKind.u64.wrap ((wd s (E * 4503599627370496 + F) : Int) + ((2 ^ (1074 - E) : Nat) : Int)) = ((wd s (E * 4503599627370496 + F) + 2 ^ (1074 - E) : Nat) : Int) := by
    rw [IntKind.wrap_u64]; omega
  rw [c1, c2, hw, u64_andNot_nat _ _ hx (by omega)]
  have e64 : 18446744073709551615 - (2 ^ (1075 - E) - 1) = 2 ^ 64 - 2 ^ (1075 - E) := by
    have : (2 : Nat) ^ 64 = 18446744073709551616 := rfl
    rw [this]; omega
  rw [e64, strike _ _ hx (by omega), rung_round hF h1 h2]
  congr 1
  -- all but the significand is a multiple of the gap
  have k1 : (9223372036854775808 : Nat) = 2 ^ (1075 - E) * 2 ^ (63 - (1075 - E)) := by
    rw [← Nat.pow_add, show 1075 - E + (63 - (1075 - E)) = 63 by omega]
  have k2 : (4503599627370496 : Nat) = 2 ^ (1075 - E) * 2 ^ (52 - (1075 - E)) := by
    rw [← Nat.pow_add, show 1075 - E + (52 - (1075 - E)) = 52 by omega]
  obtain ⟨K, hK⟩ : ∃ K, wd s (E * 4503599627370496 + F) + 2 ^ (1074 - E) = (4503599627370496 + F + 2 ^ (1074 - E)) + 2 ^ (1075 - E) * K ∧ wd s ((E - 1) * 4503599627370496 + roundQ E F * 2 ^ (1075 - E)) = roundQ E F * 2 ^ (1075 - E) + 2 ^ (1075 - E) * K := by
    have hmul : 2 ^ (1075 - E) * ((E - 1) * 2 ^ (52 - (1075 - E))) = (E - 1) * 4503599627370496 := by
      rw [Nat.mul_left_comm, ← k2]
    rcases sign_cases s (E * 4503599627370496 + F) with ⟨hs, e1⟩ | ⟨hs, e1⟩
    · subst hs
      refine ⟨(E - 1) * 2 ^ (52 - (1075 - E)), ?_, ?_⟩
      · rw [e1, hmul]; omega
      · rw [wd_false, hmul]; omega
    · subst hs
      refine ⟨2 ^ (63 - (1075 - E)) + (E - 1) * 2 ^ (52 - (1075 - E)), ?_, ?_⟩
      · rw [e1, Nat.mul_add, hmul, ← k1]; omega
      · rw [wd_eq, Nat.mul_add, hmul, ← k1]; simp; omega
  obtain ⟨hK1, hK2⟩ := hK
  rw [hK1, hK2, Nat.add_mul_div_left _ _ hp, Nat.add_mul, Nat.mul_comm K]
  rfl
end Go.Proofs.YbulkdqguFmt
