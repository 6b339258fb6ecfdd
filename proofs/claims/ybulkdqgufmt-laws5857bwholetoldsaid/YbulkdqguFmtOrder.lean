/-
  PLAIN LAWS ON DOUBLES: how a word stands to a half and to 180; what 240 and 10^9 times a word below 2^8 come to.
-/
import Derived.Test.YbulkdqguFmtRound
namespace Go.Proofs.YbulkdqguFmt
open Ieee

theorem cmp_lt {a b : Int} (h : a < b) : compare a b = .lt := by simp [compare, compareOfLessAndEq, h]
theorem cmp_gt {a b : Int} (h : b < a) : compare a b = .gt := by
  have h1 : ¬ a < b := by omega
  have h2 : ¬ a = b := by omega
  simp [compare, compareOfLessAndEq, h1, h2]
theorem cmp_eq (a : Int) : compare a a = .eq := by simp [compare, compareOfLessAndEq]

theorem order_number (s t : Bool) (m n : Nat) (i j : Int) : (Datum.number s m i).order (Datum.number t n j) = some (compare (signed s m (i - min i j).toNat) (signed t n (j - min i j).toNat)) := rfl

theorem wd_false (r : Nat) : wd false r = r := by rw [wd_eq]; simp

theorem half_read : double.read 4602678819172646912 = .number false 4503599627370496 (-53) := by
  have := read_norm false (E := 1022) (F := 0) (by omega) (by omega) (by omega)
  rw [wd_false] at this
  exact this

theorem split_norm {r : Nat} (h1 : 4503599627370496 ≤ r) (h2 : r < 9218868437227405312) : ∃ E F, r = E * 4503599627370496 + F ∧ F < 4503599627370496 ∧ 1 ≤ E ∧ E < 2047 :=
  ⟨r / 4503599627370496, r % 4503599627370496, by omega, by omega, by omega, by omega⟩

/-- Below a half. -/
theorem order_half_lt {r : Nat} (h : r < 1022 * 4503599627370496) : double.order (wd false r) 4602678819172646912 = some .lt := by
  unfold Format.order
  rw [half_read]
  by_cases h0 : r < 4503599627370496
  · rw [read_sub false h0, order_number]
    obtain ⟨k, hk⟩ : ∃ k : Nat, k = 1021 := ⟨_, rfl⟩
    have hm : min (-1074 : Int) (-53) = -1074 := by decide
    have t1 : ((-1074 : Int) - -1074).toNat = 0 := by decide
    have t2 : ((-53 : Int) - -1074).toNat = k := by omega
    rw [hm, t1, t2, signed_eq, signed_eq]
    have hpos := Nat.two_pow_pos k
    have : 4503599627370496 ≤ 4503599627370496 * 2 ^ k := Nat.le_mul_of_pos_right _ hpos
    rw [cmp_lt (by simp only [Bool.false_eq_true, if_false, Nat.pow_zero, Nat.mul_one]; omega)]
  · obtain ⟨E, F, rfl, hF, h1, h2⟩ := split_norm (by omega) (show r < 9218868437227405312 by omega)
    rw [read_norm false h1 h2 hF, order_number]
    have hm : min ((E : Int) - 1075) (-53) = (E : Int) - 1075 := by omega
    have t1 : ((E : Int) - 1075 - ((E : Int) - 1075)).toNat = 0 := by omega
    have t2 : ((-53 : Int) - ((E : Int) - 1075)).toNat = 1021 - E + 1 := by omega
    rw [hm, t1, t2, signed_eq, signed_eq]
    have hpos := Nat.two_pow_pos (1021 - E)
    have : 9007199254740992 ≤ 4503599627370496 * 2 ^ (1021 - E + 1) := by rw [Nat.pow_succ]; omega
    rw [cmp_lt (by simp only [Bool.false_eq_true, if_false, Nat.pow_zero, Nat.mul_one]; omega)]

/-- A half or more. -/
theorem order_half_ge {r : Nat} (h1 : 1022 * 4503599627370496 ≤ r) (h2 : r < 9218868437227405312) : double.order (wd false r) 4602678819172646912 = some .gt ∨ double.order (wd false r) 4602678819172646912 = some .eq := by
  unfold Format.order
  rw [half_read]
  obtain ⟨E, F, rfl, hF, e1, e2⟩ := split_norm (by omega) h2
  rw [read_norm false e1 e2 hF, order_number]
  have hm : min ((E : Int) - 1075) (-53) = -53 := by omega
  have t1 : ((E : Int) - 1075 - -53).toNat = E - 1022 := by omega
  have t2 : ((-53 : Int) - -53).toNat = 0 := by decide
  rw [hm, t1, t2, signed_eq, signed_eq]
  have hpos := Nat.two_pow_pos (E - 1022)
  have : 4503599627370496 + F ≤ (4503599627370496 + F) * 2 ^ (E - 1022) := Nat.le_mul_of_pos_right _ hpos
  simp only [Bool.false_eq_true, if_false, Nat.pow_zero, Nat.mul_one]
  generalize (4503599627370496 + F) * 2 ^ (E - 1022) = x at this ⊢
  by_cases hx : x = 4503599627370496
  · right; rw [hx, cmp_eq]
  · left; rw [cmp_gt (by omega)]

theorem r180 : double.read 4640537203540230144 = .number false 6333186975989760 (-45) := by
  have := read_norm false (E := 1030) (F := 1829587348619264) (by omega) (by omega) (by omega)
  rw [wd_false] at this
  exact this
theorem rm180 : double.read 13863909240395005952 = .number true 6333186975989760 (-45) := by
  have := read_norm true (E := 1030) (F := 1829587348619264) (by omega) (by omega) (by omega)
  rw [wd_eq] at this
  exact this

/-- A finite word: one magnitude, whatever the sign. -/
theorem read_finite {r : Nat} (h : r < 9218868437227405312) : ∃ m i, (∀ s, double.read (wd s r) = .number s m i) ∧ m < 9007199254740992 ∧ -1074 ≤ i ∧ (1031 * 4503599627370496 ≤ r → 4503599627370496 ≤ m ∧ -44 ≤ i) ∧
    (r < 1031 * 4503599627370496 → i ≤ -45) ∧ (r < 1040 * 4503599627370496 → i ≤ -36) := by
  by_cases h0 : r < 4503599627370496
  · exact ⟨r, -1074, fun s => read_sub s h0, by omega, by omega, fun h => by omega, fun _ => by omega, fun _ => by omega⟩
  · obtain ⟨E, F, rfl, hF, h1, h2⟩ := split_norm (by omega) h
    exact ⟨_, _, fun s => read_norm s h1 h2 hF, by omega, by omega, fun h => ⟨by omega, by omega⟩, fun _ => by omega, fun _ => by omega⟩

theorem read_inf (s : Bool) : double.read (wd s 9218868437227405312) = .infinity s := by
  rw [read_parts (by omega), if_neg (by omega), if_neg (by omega), if_pos rfl]

theorem order_nan {s : Bool} {r : Nat} (h1 : 9218868437227405312 < r) (h2 : r < 9223372036854775808) (y : Nat) : double.order (wd s r) y = none := by
  unfold Format.order
  rw [read_parts h2, if_neg (by omega), if_neg (by omega), if_neg (by omega)]
  rfl

theorem order_self {s : Bool} {r : Nat} (h : r ≤ 9218868437227405312) : double.order (wd s r) (wd s r) = some .eq := by
  unfold Format.order
  by_cases hi : r = 9218868437227405312
  · subst hi
    rw [read_inf]
    cases s <;> rfl
  · obtain ⟨m, i, hr, _⟩ := read_finite (show r < 9218868437227405312 by omega)
    rw [hr, order_number, cmp_eq]

/-- Beyond 180 either way, or not: as the magnitude says. -/
theorem order_180 (s : Bool) {r : Nat} (h : r ≤ 9218868437227405312) :
    (double.order (wd false r) 4640537203540230144 = some .gt ∧ (s = false → double.order (wd s r) 4640537203540230144 = some .gt) ∧
      (s = true → double.order (wd s r) 4640537203540230144 = some .lt ∧ double.order (wd s r) 13863909240395005952 = some .lt)) ∨
    (r < 1031 * 4503599627370496 ∧ (double.order (wd false r) 4640537203540230144 == some .gt) = false ∧ (double.order (wd s r) 4640537203540230144 == some .gt) = false ∧
      (double.order (wd s r) 13863909240395005952 == some .lt) = false) := by
  unfold Format.order
  rw [r180, rm180]
  by_cases hi : r = 9218868437227405312
  · subst hi
    left
    rw [read_inf, read_inf]
    refine ⟨rfl, ?_, ?_⟩
    · rintro rfl; rfl
    · rintro rfl; exact ⟨rfl, rfl⟩
  · obtain ⟨m, i, hr, hm, hi0, hbig, hsm, _⟩ := read_finite (show r < 9218868437227405312 by omega)
    rw [hr, hr]
    simp only [order_number]
    have p1 := Nat.two_pow_pos (i - min i (-45)).toNat
    have p2 := Nat.two_pow_pos ((-45 : Int) - min i (-45)).toNat
    have hb : 1031 * 4503599627370496 ≤ r → 6333186975989760 * 2 ^ ((-45 : Int) - min i (-45)).toNat < m * 2 ^ (i - min i (-45)).toNat := by
      intro hge
      obtain ⟨b1, b2⟩ := hbig hge
      have t1 : ((-45 : Int) - min i (-45)).toNat = 0 := by omega
      have t2 : (i - min i (-45)).toNat = (i + 44).toNat + 1 := by omega
      rw [t1, t2, Nat.pow_zero, Nat.pow_succ]
      have p3 := Nat.two_pow_pos (i + 44).toNat
      have : 4503599627370496 ≤ m * 2 ^ (i + 44).toNat := Nat.le_trans b1 (Nat.le_mul_of_pos_right _ p3)
      rw [← Nat.mul_assoc]
      omega
    have hz : 0 < 6333186975989760 * 2 ^ ((-45 : Int) - min i (-45)).toNat := by omega
    simp only [signed_eq]
    generalize m * 2 ^ (i - min i (-45)).toNat = a at hb ⊢
    generalize 6333186975989760 * 2 ^ ((-45 : Int) - min i (-45)).toNat = b at hb hz ⊢
    by_cases hab : b < a
    · left
      refine ⟨by rw [cmp_gt (by simp only [Bool.false_eq_true, if_false]; omega)], ?_, ?_⟩
      · rintro rfl
        rw [cmp_gt (by simp only [Bool.false_eq_true, if_false]; omega)]
      · rintro rfl
        rw [cmp_lt (by simp only [Bool.false_eq_true, if_false, if_true]; omega), cmp_lt (by simp only [if_true]; omega)]
        exact ⟨rfl, rfl⟩
    · right
      refine ⟨by omega, ?_, ?_, ?_⟩
      · by_cases he : a = b
        · subst he; rw [cmp_eq]; rfl
        · rw [cmp_lt (by simp only [Bool.false_eq_true, if_false]; omega)]; rfl
      · cases s
        · by_cases he : a = b
          · subst he; rw [cmp_eq]; rfl
          · rw [cmp_lt (by simp only [Bool.false_eq_true, if_false]; omega)]; rfl
        · rw [cmp_lt (by simp only [Bool.false_eq_true, if_false, if_true]; omega)]; rfl
      · cases s
        · rw [cmp_gt (by simp only [Bool.false_eq_true, if_false, if_true]; omega)]; rfl
        · by_cases he : a = b
          · subst he; simp only [if_true]; rw [cmp_eq]; rfl
          · rw [cmp_gt (by simp only [if_true]; omega)]; rfl

theorem log2_mul {m n : Nat} (hm : m < 9007199254740992) (hn : n < 9007199254740992) (h : m * n ≠ 0) : (m * n).log2 ≤ 105 := by
  have : (m * n).log2 < 106 := by
    rw [Nat.log2_lt h]
    have h1 : m * n ≤ 9007199254740991 * 9007199254740991 := Nat.mul_le_mul (by omega) (by omega)
    exact Nat.lt_of_le_of_lt h1 (by decide)
  omega

theorem r240 : double.read 4642648265865560064 = .number false 8444249301319680 (-45) := by
  have := read_norm false (E := 1030) (F := 3940649673949184) (by omega) (by omega) (by omega)
  rw [wd_false] at this
  exact this
theorem r1e9 : double.read 4741671816366391296 = .number false 8388608000000000 (-23) := by
  have := read_norm false (E := 1052) (F := 3885008372629504) (by omega) (by omega) (by omega)
  rw [wd_false] at this
  exact this

/-- 240 times a number below 2^8. -/
theorem mul_240 (s : Bool) {r : Nat} (h : r < 1031 * 4503599627370496) : ∃ r1, double.mul (wd s r) 4642648265865560064 = some (wd s r1) ∧ r1 ≤ 1039 * 4503599627370496 := by
  unfold Format.mul
  obtain ⟨m, i, hr, hm, _, _, hi, _⟩ := read_finite (show r < 9218868437227405312 by omega)
  rw [r240, hr]
  obtain ⟨r1, h1, h2⟩ := nearest_le s (m * 8444249301319680) (i + -45) 16 (fun h0 => by have := log2_mul hm (by omega) h0; have := hi h; omega) (by omega)
  refine ⟨r1, ?_, h2⟩
  unfold Datum.product
  simp only [Bool.xor_false, Option.map_some]
  exact congrArg some h1

/-- 10^9 times what comes of that. -/
theorem mul_1e9 (s : Bool) {r : Nat} (h : r ≤ 1039 * 4503599627370496) : ∃ r1, double.mul (wd s r) 4741671816366391296 = some (wd s r1) ∧ r1 ≤ 1070 * 4503599627370496 := by
  unfold Format.mul
  obtain ⟨m, i, hr, hm, _, _, _, hi⟩ := read_finite (show r < 9218868437227405312 by omega)
  rw [r1e9, hr]
  obtain ⟨r1, h1, h2⟩ := nearest_le s (m * 8388608000000000) (i + -23) 47 (fun h0 => by have := log2_mul hm (by omega) h0; have := hi (by omega); omega) (by omega)
  refine ⟨r1, ?_, h2⟩
  unfold Datum.product
  simp only [Bool.xor_false, Option.map_some]
  exact congrArg some h1
end Go.Proofs.YbulkdqguFmt
