/-
  PLAIN LAWS ON DOUBLES, OVER Ieee ALONE: what a word reads as; when a number is written exactly; a bound on what is written.
-/
import Ieee.Arith
namespace Go.Proofs.YbulkdqguFmt
open Ieee

/-- The word of sign s and rung r. -/
def wd (s : Bool) (r : Nat) : Nat := double.word s r

theorem wd_eq (s : Bool) (r : Nat) : wd s r = (if s then 9223372036854775808 else 0) + r := by
  unfold wd Format.word
  have e : double.signWeight = 9223372036854775808 := rfl
  cases s <;> simp [e]

theorem wd_lt {s : Bool} {r : Nat} (h : r < 9223372036854775808) : wd s r < 18446744073709551616 := by
  rw [wd_eq]
  cases s <;> simp <;> omega

theorem word_split (b : Nat) (h : b < 18446744073709551616) : ∃ s r, b = wd s r ∧ r < 9223372036854775808 := by
  by_cases hs : b < 9223372036854775808
  · exact ⟨false, b, by rw [wd_eq]; simp, hs⟩
  · exact ⟨true, b - 9223372036854775808, by rw [wd_eq]; simp; omega, by omega⟩

theorem read_parts {s : Bool} {r : Nat} (h : r < 9223372036854775808) : double.read (wd s r) =
    if r < 4503599627370496 then .number s r (-1074)
    else if r < 9218868437227405312 then .number s (4503599627370496 + r % 4503599627370496) (-1074 + (r / 4503599627370496 - 1 : Nat))
    else if r = 9218868437227405312 then .infinity s
    else .nan s (r - 9218868437227405312) := by
  unfold Format.read
  have e1 : double.signWeight = 9223372036854775808 := rfl
  have e2 : double.binade = 4503599627370496 := rfl
  have e3 : double.infRung = 9218868437227405312 := rfl
  have e4 : double.leastPlace = -1074 := rfl
  rw [e1, e2, e3, e4]
  have hm : wd s r % 9223372036854775808 = r := by rw [wd_eq]; cases s <;> simp <;> omega
  have hs : (wd s r / 9223372036854775808 % 2 == 1) = s := by
    rw [wd_eq]
    cases s
    · have : r / 9223372036854775808 = 0 := by omega
      simp [this]
    · have : (9223372036854775808 + r) / 9223372036854775808 = 1 := by omega
      simp [this]
  simp only [hm, hs]

/-- A subnormal number, or zero. -/
theorem read_sub (s : Bool) {r : Nat} (h : r < 4503599627370496) : double.read (wd s r) = .number s r (-1074) := by
  rw [read_parts (by omega), if_pos h]

/-- A normal number. -/
theorem read_norm (s : Bool) {E F : Nat} (h1 : 1 ≤ E) (h2 : E < 2047) (hF : F < 4503599627370496) :
    double.read (wd s (E * 4503599627370496 + F)) = .number s (4503599627370496 + F) ((E : Int) - 1075) := by
  rw [read_parts (by omega), if_neg (by omega), if_pos (by omega)]
  have e1 : (E * 4503599627370496 + F) % 4503599627370496 = F := by omega
  have e2 : (E * 4503599627370496 + F) / 4503599627370496 = E := by omega
  rw [e1, e2]
  congr 1
  omega

theorem cut_zero (s : Bool) (n d : Nat) : Toward.zero.cut s n d = n / 2 ^ d := by
  unfold Toward.cut
  simp only [Bool.toNat_false, Nat.add_zero, Nat.shiftLeft_eq, Nat.one_mul]
  by_cases h : d ≤ n.log2 + 2
  · rw [Nat.min_eq_left h]
  · have h' : n.log2 + 2 ≤ d := by omega
    rw [Nat.min_eq_right h']
    have h1 : n < 2 ^ (n.log2 + 2) := Nat.lt_of_lt_of_le Nat.lt_log2_self (Nat.pow_le_pow_right (by omega) (by omega))
    have h2 : n < 2 ^ d := Nat.lt_of_lt_of_le h1 (Nat.pow_le_pow_right (by omega) h')
    rw [Nat.div_eq_of_lt h1, Nat.div_eq_of_lt h2]

/-- What is a whole multiple of the gap is cut without a loss. -/
theorem cut_even (s : Bool) (k d : Nat) (hk : k ≠ 0) : Toward.even.cut s (k * 2 ^ d) d = k := by
  unfold Toward.cut
  have hp : 0 < 2 ^ d := Nat.two_pow_pos d
  have hn : k * 2 ^ d ≠ 0 := Nat.mul_ne_zero hk (by omega)
  have hd : d ≤ (k * 2 ^ d).log2 := by
    rw [Nat.le_log2 hn]
    exact Nat.le_mul_of_pos_left _ (by omega)
  rw [Nat.min_eq_left (by omega)]
  simp only [Nat.shiftLeft_eq, Nat.one_mul]
  rw [Nat.mul_div_cancel _ hp, Nat.mul_mod_left]
  have h1 : decide (2 ^ d < 2 * 0) = false := by simp
  have h2 : (2 ^ d == 2 * 0) = false := by simp
  rw [h1, h2]
  simp

theorem log2_shift {M k : Nat} (h1 : 4503599627370496 ≤ M) (h2 : M < 9007199254740992) : (M * 2 ^ k).log2 = 52 + k := by
  have hp : 0 < 2 ^ k := Nat.two_pow_pos k
  rw [Nat.log2_eq_iff (Nat.mul_ne_zero (by omega) (by omega))]
  rw [Nat.pow_add, show 52 + k + 1 = 53 + k by omega, Nat.pow_add]
  exact ⟨Nat.mul_le_mul_right _ h1, Nat.mul_lt_mul_of_pos_right h2 hp⟩

theorem nearest_zero (s : Bool) (p : Int) : double.nearest s 0 p = wd s 0 := by
  unfold Format.nearest
  simp [wd]

/-- A number with digits below its last place, all of them nought. -/
theorem nearest_down (s : Bool) {M k : Nat} {P : Int} (h1 : 4503599627370496 ≤ M) (h2 : M < 9007199254740992) (hP : -1074 ≤ P) (hr : (P + 1074).toNat * 4503599627370496 + M ≤ 9218868437227405312) :
    double.nearest s (M * 2 ^ k) (P - k) = wd s ((P + 1074).toNat * 4503599627370496 + M) := by
  unfold Format.nearest
  have hp : 0 < 2 ^ k := Nat.two_pow_pos k
  have hn : M * 2 ^ k ≠ 0 := Nat.mul_ne_zero (by omega) (by omega)
  have e1 : double.fractionBits = 52 := rfl
  have e2 : double.binade = 4503599627370496 := rfl
  have e3 : double.infRung = 9218868437227405312 := rfl
  have e4 : double.leastPlace = -1074 := rfl
  rw [if_neg hn, log2_shift h1 h2, e1, e2, e3, e4]
  have l : max (P - (k : Int) + ((52 + k : Nat) : Int) - ((52 : Nat) : Int)) (-1074) = P := by
    rw [Int.max_eq_left (by omega)]; omega
  simp only [l]
  have t1 : (P - (k : Int) - P).toNat = 0 := by omega
  have t2 : (P - (P - (k : Int))).toNat = k := by omega
  have t3 : (P - -1074).toNat = (P + 1074).toNat := by omega
  rw [t1, t2, t3, Nat.shiftLeft_zero, cut_even s M k (by omega), Nat.min_eq_left hr]
  rfl

/-- A number of few digits. -/
theorem nearest_up (s : Bool) {m j : Nat} {P : Int} (h1 : 4503599627370496 ≤ m * 2 ^ j) (h2 : m * 2 ^ j < 9007199254740992) (hP : -1074 ≤ P - j) (hr : (P - j + 1074).toNat * 4503599627370496 + m * 2 ^ j ≤ 9218868437227405312) :
    double.nearest s m P = wd s ((P - j + 1074).toNat * 4503599627370496 + m * 2 ^ j) := by
  unfold Format.nearest
  have hm : m ≠ 0 := by rintro rfl; simp at h1
  have hp : 0 < 2 ^ j := Nat.two_pow_pos j
  have hl : m.log2 + j = 52 := by
    have a1 : 2 ^ (m.log2 + j) ≤ m * 2 ^ j := by rw [Nat.pow_add]; exact Nat.mul_le_mul_right _ (Nat.log2_self_le hm)
    have a2 : m * 2 ^ j < 2 ^ (m.log2 + 1 + j) := by rw [Nat.pow_add 2 (m.log2 + 1)]; exact Nat.mul_lt_mul_of_pos_right Nat.lt_log2_self hp
    have b1 : m.log2 + j < 53 := (Nat.pow_lt_pow_iff_right (a := 2) (by omega)).1 (Nat.lt_of_le_of_lt a1 h2)
    have b2 : 52 < m.log2 + 1 + j := (Nat.pow_lt_pow_iff_right (a := 2) (by omega)).1 (Nat.lt_of_le_of_lt h1 a2)
    omega
  have e1 : double.fractionBits = 52 := rfl
  have e2 : double.binade = 4503599627370496 := rfl
  have e3 : double.infRung = 9218868437227405312 := rfl
  have e4 : double.leastPlace = -1074 := rfl
  rw [if_neg hm, e1, e2, e3, e4]
  have l : max (P + (m.log2 : Int) - ((52 : Nat) : Int)) (-1074) = P - j := by
    rw [Int.max_eq_left (by omega)]; omega
  simp only [l]
  have t1 : (P - (P - (j : Int))).toNat = j := by omega
  have t2 : (P - (j : Int) - P).toNat = 0 := by omega
  have t3 : (P - (j : Int) - -1074).toNat = (P - j + 1074).toNat := by omega
  rw [t1, t2, t3, Nat.shiftLeft_eq]
  have c := cut_even s (m * 2 ^ j) 0 (by omega)
  rw [Nat.pow_zero, Nat.mul_one] at c
  rw [c, Nat.min_eq_left hr]
  rfl

/-- A subnormal number. -/
theorem nearest_sub (s : Bool) {m : Nat} (h : m < 4503599627370496) : double.nearest s m (-1074) = wd s m := by
  by_cases hm : m = 0
  · subst hm; exact nearest_zero s _
  unfold Format.nearest
  have hl : m.log2 < 52 := (Nat.log2_lt hm).2 h
  have e1 : double.fractionBits = 52 := rfl
  have e2 : double.binade = 4503599627370496 := rfl
  have e3 : double.infRung = 9218868437227405312 := rfl
  have e4 : double.leastPlace = -1074 := rfl
  rw [if_neg hm, e1, e2, e3, e4]
  have l : max (-1074 + (m.log2 : Int) - ((52 : Nat) : Int)) (-1074) = -1074 := by
    rw [Int.max_eq_right (by omega)]
  simp only [l]
  have c := cut_even s m 0 hm
  rw [Nat.pow_zero, Nat.mul_one] at c
  have t : ((-1074 : Int) - -1074).toNat = 0 := by omega
  rw [t, Nat.shiftLeft_zero, c, Nat.zero_mul, Nat.zero_add, Nat.min_eq_left (by omega)]
  rfl

theorem cut_le (s : Bool) (n d B : Nat) (h : n < B * 2 ^ d) : Toward.even.cut s n d ≤ B := by
  unfold Toward.cut
  simp only [Nat.shiftLeft_eq, Nat.one_mul]
  have key : n / 2 ^ min d (n.log2 + 2) < B ∨ n / 2 ^ min d (n.log2 + 2) = 0 := by
    by_cases hd : d ≤ n.log2 + 2
    · left
      rw [Nat.min_eq_left hd, Nat.div_lt_iff_lt_mul (Nat.two_pow_pos d)]
      exact h
    · right
      rw [Nat.min_eq_right (by omega)]
      exact Nat.div_eq_of_lt (Nat.lt_of_lt_of_le Nat.lt_log2_self (Nat.pow_le_pow_right (by omega) (by omega)))
  have hB : 0 < B := by
    rcases Nat.eq_zero_or_pos B with h0 | h0
    · subst h0; simp at h
    · exact h0
  have hb : ∀ b : Bool, b.toNat ≤ 1 := fun b => by cases b <;> decide
  have := hb (decide (2 ^ min d (n.log2 + 2) < 2 * (n % 2 ^ min d (n.log2 + 2))) || (2 ^ min d (n.log2 + 2) == 2 * (n % 2 ^ min d (n.log2 + 2)) && n / 2 ^ min d (n.log2 + 2) % 2 == 1))
  rcases key with k | k <;> omega

/-- What is written of a number below 2^K is at most 2^K. -/
theorem nearest_le (s : Bool) (mag : Nat) (place : Int) (K : Nat) (h : mag ≠ 0 → place + mag.log2 + 1 ≤ K) (hK : K ≤ 1000) :
    ∃ r, double.nearest s mag place = wd s r ∧ r ≤ (K + 1023) * 4503599627370496 := by
  by_cases hm : mag = 0
  · subst hm; exact ⟨0, nearest_zero s _, by omega⟩
  have h := h hm
  unfold Format.nearest
  have e1 : double.fractionBits = 52 := rfl
  have e2 : double.binade = 4503599627370496 := rfl
  have e3 : double.infRung = 9218868437227405312 := rfl
  have e4 : double.leastPlace = -1074 := rfl
  rw [if_neg hm, e1, e2, e3, e4]
  simp only []
  refine ⟨_, rfl, Nat.le_trans (Nat.min_le_left _ _) ?_⟩
  by_cases hl : (-1074 : Int) ≤ place + (mag.log2 : Int) - ((52 : Nat) : Int)
  · rw [Int.max_eq_left hl]
    have hc : Toward.even.cut s (mag <<< (place - (place + (mag.log2 : Int) - ((52 : Nat) : Int))).toNat) ((place + (mag.log2 : Int) - ((52 : Nat) : Int)) - place).toNat ≤ 9007199254740992 := by
      apply cut_le
      rw [Nat.shiftLeft_eq]
      have h3 : mag < 2 ^ (mag.log2 + 1) := Nat.lt_log2_self
      by_cases h52 : mag.log2 ≤ 52
      · have t1 : (place - (place + (mag.log2 : Int) - ((52 : Nat) : Int))).toNat = 52 - mag.log2 := by omega
        have t2 : ((place + (mag.log2 : Int) - ((52 : Nat) : Int)) - place).toNat = 0 := by omega
        rw [t1, t2, Nat.pow_zero, Nat.mul_one]
        have := Nat.mul_lt_mul_of_pos_right h3 (Nat.two_pow_pos (52 - mag.log2))
        rw [← Nat.pow_add, show mag.log2 + 1 + (52 - mag.log2) = 53 by omega] at this
        exact this
      · have t1 : (place - (place + (mag.log2 : Int) - ((52 : Nat) : Int))).toNat = 0 := by omega
        have t2 : ((place + (mag.log2 : Int) - ((52 : Nat) : Int)) - place).toNat = mag.log2 - 52 := by omega
        rw [t1, t2, Nat.pow_zero, Nat.mul_one]
        have : 2 ^ (mag.log2 + 1) = 9007199254740992 * 2 ^ (mag.log2 - 52) := by
          rw [show mag.log2 + 1 = 53 + (mag.log2 - 52) by omega, Nat.pow_add]
        omega
    have t3 : ((place + (mag.log2 : Int) - ((52 : Nat) : Int)) - -1074).toNat ≤ K + 1021 := by omega
    exact Nat.le_trans (Nat.add_le_add (Nat.mul_le_mul_right 4503599627370496 t3) hc) (by omega)
  · rw [Int.max_eq_right (by omega)]
    have hc : Toward.even.cut s (mag <<< (place - -1074).toNat) (-1074 - place).toNat ≤ 9007199254740992 := by
      apply cut_le
      rw [Nat.shiftLeft_eq]
      have h3 : mag < 2 ^ (mag.log2 + 1) := Nat.lt_log2_self
      by_cases h52 : -1074 ≤ place
      · have t2 : (-1074 - place).toNat = 0 := by omega
        rw [t2, Nat.pow_zero, Nat.mul_one]
        have := Nat.mul_lt_mul_of_pos_right h3 (Nat.two_pow_pos (place - -1074).toNat)
        rw [← Nat.pow_add] at this
        refine Nat.lt_of_lt_of_le this ?_
        show _ ≤ 2 ^ 53
        exact Nat.pow_le_pow_right (by omega) (by omega)
      · have t2 : (place - -1074).toNat = 0 := by omega
        rw [t2, Nat.pow_zero, Nat.mul_one]
        refine Nat.lt_of_lt_of_le h3 ?_
        have : (9007199254740992 : Nat) = 2 ^ 53 := rfl
        rw [this, ← Nat.pow_add]
        exact Nat.pow_le_pow_right (by omega) (by omega)
    have t3 : ((-1074 : Int) - -1074).toNat = 0 := by omega
    rw [t3, Nat.zero_mul, Nat.zero_add]
    exact Nat.le_trans hc (by omega)
end Go.Proofs.YbulkdqguFmt
