/-
  PLAIN LAWS ON DOUBLES: a number below 2^47, truncated; what is left over; one more: ROUNDED TO THE NEAREST WHOLE NUMBER, halves away from zero.
  The word: sign s, exponent field E (at most 1070), fraction field F. 4503599627370496 is 2^52.
-/
import Derived.Test.YbulkdqguFmtWords
namespace Go.Proofs.YbulkdqguFmt
open Ieee

/-- The rung of a whole number. -/
def rungOf (q : Nat) : Nat := if q = 0 then 0 else (q.log2 + 1022) * 4503599627370496 + q * 2 ^ (52 - q.log2)
/-- The whole part. -/
def truncQ (E F : Nat) : Nat := (4503599627370496 + F) / 2 ^ (1075 - E)
/-- What is left over. -/
def leftQ (E F : Nat) : Nat := (4503599627370496 + F) % 2 ^ (1075 - E)
/-- The nearest whole number. -/
def roundQ (E F : Nat) : Nat := (4503599627370496 + F + 2 ^ (1074 - E)) / 2 ^ (1075 - E)

theorem pow_big (k : Nat) (h : 53 ≤ k) : 9007199254740992 ≤ 2 ^ k := by
  have : 2 ^ 53 ≤ 2 ^ k := Nat.pow_le_pow_right (by omega) h
  exact this

theorem pow_double (E : Nat) (h : E ≤ 1074) : 2 ^ (1075 - E) = 2 * 2 ^ (1074 - E) := by
  rw [show 1075 - E = (1074 - E) + 1 by omega, Nat.pow_succ, Nat.mul_comm]

theorem round_low (E F : Nat) (h : E ≤ 1074) (hl : leftQ E F < 2 ^ (1074 - E)) : roundQ E F = truncQ E F := by
  unfold roundQ truncQ
  unfold leftQ at hl
  have hp := pow_double E h
  have hpos : 0 < 2 ^ (1074 - E) := Nat.two_pow_pos _
  rw [hp] at hl ⊢
  clear hp
  generalize 2 ^ (1074 - E) = H at hl hpos ⊢
  generalize 4503599627370496 + F = m at hl ⊢
  have hd := Nat.div_add_mod m (2 * H)
  rw [Nat.div_eq_iff (by omega)]
  generalize m / (2 * H) = k at hd ⊢
  generalize m % (2 * H) = t at hd hl ⊢
  rw [Nat.mul_comm k]
  generalize 2 * H * k = z at hd ⊢
  omega

theorem round_high (E F : Nat) (h : E ≤ 1074) (hl : 2 ^ (1074 - E) ≤ leftQ E F) : roundQ E F = truncQ E F + 1 := by
  unfold roundQ truncQ
  unfold leftQ at hl
  have hp := pow_double E h
  have hpos : 0 < 2 ^ (1074 - E) := Nat.two_pow_pos _
  rw [hp] at hl ⊢
  clear hp
  generalize 2 ^ (1074 - E) = H at hl hpos ⊢
  generalize 4503599627370496 + F = m at hl ⊢
  have hd := Nat.div_add_mod m (2 * H)
  have ht := Nat.mod_lt m (show 0 < 2 * H by omega)
  rw [Nat.div_eq_iff (by omega)]
  generalize m / (2 * H) = k at hd ⊢
  generalize m % (2 * H) = t at hd hl ht ⊢
  rw [Nat.add_mul, Nat.mul_comm k]
  generalize 2 * H * k = z at hd ⊢
  omega

theorem log2_bounds {q : Nat} (h : q ≠ 0) : 2 ^ q.log2 ≤ q ∧ q < 2 ^ (q.log2 + 1) := ⟨Nat.log2_self_le h, Nat.lt_log2_self⟩

theorem full {q : Nat} (h0 : q ≠ 0) (h : q < 9007199254740992) : q.log2 ≤ 52 ∧ 4503599627370496 ≤ q * 2 ^ (52 - q.log2) ∧ q * 2 ^ (52 - q.log2) < 9007199254740992 := by
  have hl : q.log2 < 53 := (Nat.log2_lt h0).2 h
  obtain ⟨b1, b2⟩ := log2_bounds h0
  have hp : 0 < 2 ^ (52 - q.log2) := Nat.two_pow_pos _
  refine ⟨by omega, ?_, ?_⟩
  · have := Nat.mul_le_mul_right (2 ^ (52 - q.log2)) b1
    rw [← Nat.pow_add, show q.log2 + (52 - q.log2) = 52 by omega] at this
    exact this
  · have := Nat.mul_lt_mul_of_pos_right b2 hp
    rw [← Nat.pow_add, show q.log2 + 1 + (52 - q.log2) = 53 by omega] at this
    exact this

/-- A whole number below 2^53 is written exactly. -/
theorem write_int (s : Bool) {q : Nat} (h : q < 9007199254740992) : double.nearest s q 0 = wd s (rungOf q) := by
  unfold rungOf
  by_cases h0 : q = 0
  · subst h0; rw [if_pos rfl]; exact nearest_zero s _
  rw [if_neg h0]
  obtain ⟨hl, f1, f2⟩ := full h0 h
  have t : ((0 : Int) - ((52 - q.log2 : Nat) : Int) + 1074).toNat = q.log2 + 1022 := by omega
  have := nearest_up s (m := q) (j := 52 - q.log2) (P := 0) f1 f2 (by omega) (by rw [t]; omega)
  rw [this, t]

theorem rungOf_lt {q : Nat} (h : q < 9007199254740992) : rungOf q < 9218868437227405312 := by
  unfold rungOf
  by_cases h0 : q = 0
  · rw [if_pos h0]; omega
  rw [if_neg h0]
  obtain ⟨hl, f1, f2⟩ := full h0 h
  omega

theorem read_int (s : Bool) {q : Nat} (h0 : q ≠ 0) (h : q < 9007199254740992) : double.read (wd s (rungOf q)) = .number s (q * 2 ^ (52 - q.log2)) ((q.log2 : Int) - 52) := by
  unfold rungOf
  rw [if_neg h0]
  obtain ⟨hl, f1, f2⟩ := full h0 h
  have := read_norm s (E := q.log2 + 1023) (F := q * 2 ^ (52 - q.log2) - 4503599627370496) (by omega) (by omega) (by omega)
  have e : (q.log2 + 1022) * 4503599627370496 + q * 2 ^ (52 - q.log2) = (q.log2 + 1023) * 4503599627370496 + (q * 2 ^ (52 - q.log2) - 4503599627370496) := by omega
  have e2 : ((q.log2 + 1023 : Nat) : Int) - 1075 = (q.log2 : Int) - 52 := by omega
  rw [e, this, Nat.add_sub_cancel' f1, e2]

theorem read_zero (s : Bool) : double.read (wd s 0) = .number s 0 (-1074) := read_sub s (by omega)

/-- A whole number's word, made an integer again. -/
theorem toInt_int (s : Bool) {q : Nat} (h : q < 9007199254740992) : (double.read (wd s (rungOf q))).toInt .zero = some (if s then -(q : Int) else q) := by
  by_cases h0 : q = 0
  · subst h0
    have : rungOf 0 = 0 := rfl
    rw [this, read_zero]
    unfold Datum.toInt Datum.integral
    simp only [cut_zero, Nat.zero_shiftLeft, Nat.zero_div]
    cases s <;> rfl
  · obtain ⟨hl, f1, f2⟩ := full h0 h
    rw [read_int s h0 h]
    unfold Datum.toInt Datum.integral
    simp only [cut_zero]
    have t1 : ((q.log2 : Int) - 52).toNat = 0 := by omega
    have t2 : (-((q.log2 : Int) - 52)).toNat = 52 - q.log2 := by omega
    rw [t1, t2, Nat.shiftLeft_zero, Nat.mul_div_cancel _ (Nat.two_pow_pos _)]
    simp [signed]

section
variable (s : Bool) (E F : Nat)

theorem truncQ_lt (hF : F < 4503599627370496) : truncQ E F < 9007199254740992 := by
  unfold truncQ
  exact Nat.lt_of_le_of_lt (Nat.div_le_self _ _) (by omega)

theorem truncQ_zero (hF : F < 4503599627370496) (hE : E ≤ 1022) : truncQ E F = 0 := by
  unfold truncQ
  apply Nat.div_eq_of_lt
  have : 2 ^ 53 ≤ 2 ^ (1075 - E) := Nat.pow_le_pow_right (by omega) (by omega)
  have e : (2 : Nat) ^ 53 = 9007199254740992 := rfl
  omega

theorem truncQ_log (hF : F < 4503599627370496) (h1 : 1023 ≤ E) (h2 : E ≤ 1070) : truncQ E F ≠ 0 ∧ (truncQ E F).log2 = E - 1023 := by
  have hp : 0 < 2 ^ (1075 - E) := Nat.two_pow_pos _
  have e1 : (4503599627370496 : Nat) = 2 ^ (E - 1023) * 2 ^ (1075 - E) := by
    rw [← Nat.pow_add, show E - 1023 + (1075 - E) = 52 by omega]
  have e2 : (9007199254740992 : Nat) = 2 ^ (E - 1023 + 1) * 2 ^ (1075 - E) := by
    rw [← Nat.pow_add, show E - 1023 + 1 + (1075 - E) = 53 by omega]
  have a1 : 2 ^ (E - 1023) ≤ truncQ E F := by
    unfold truncQ
    rw [Nat.le_div_iff_mul_le hp]
    omega
  have a2 : truncQ E F < 2 ^ (E - 1023 + 1) := by
    unfold truncQ
    rw [Nat.div_lt_iff_lt_mul hp]
    omega
  have hpos : 0 < 2 ^ (E - 1023) := Nat.two_pow_pos _
  have h0 : truncQ E F ≠ 0 := by omega
  exact ⟨h0, (Nat.log2_eq_iff h0).2 ⟨a1, a2⟩⟩

/-- math.Trunc. -/
theorem trunc_word (hE : E ≤ 1070) (hF : F < 4503599627370496) : double.write ((double.read (wd s (E * 4503599627370496 + F))).integral .zero) = wd s (rungOf (truncQ E F)) := by
  by_cases h0 : E = 0
  · subst h0
    rw [Nat.zero_mul, Nat.zero_add, read_sub s hF, truncQ_zero 0 F hF (by omega)]
    unfold Datum.integral
    simp only [cut_zero]
    have : F <<< (-1074 : Int).toNat / 2 ^ (-(-1074 : Int)).toNat = 0 := by
      have t1 : (-1074 : Int).toNat = 0 := rfl
      rw [t1, Nat.shiftLeft_zero]
      apply Nat.div_eq_of_lt
      have hbig := pow_big (-(-1074 : Int)).toNat (by omega)
      generalize 2 ^ (-(-1074 : Int)).toNat = X at hbig ⊢
      omega
    rw [this]
    exact nearest_zero s _
  · rw [read_norm s (by omega) (by omega) hF]
    unfold Datum.integral
    simp only [cut_zero]
    have t1 : ((E : Int) - 1075).toNat = 0 := by omega
    have t2 : (-((E : Int) - 1075)).toNat = 1075 - E := by omega
    rw [t1, t2, Nat.shiftLeft_zero]
    exact write_int s (truncQ_lt E F hF)

theorem signed_eq (m u : Nat) : signed s m u = if s then -((m * 2 ^ u : Nat) : Int) else ((m * 2 ^ u : Nat) : Int) := by
  unfold signed
  rw [Nat.shiftLeft_eq]

theorem sub_abs (a b u v : Nat) (h : b * 2 ^ v ≤ a * 2 ^ u) : (signed s a u + signed (!s) b v).natAbs = a * 2 ^ u - b * 2 ^ v := by
  rw [signed_eq, signed_eq]
  generalize a * 2 ^ u = A at h ⊢
  generalize b * 2 ^ v = B at h ⊢
  cases s <;> simp <;> omega

theorem sub_number (m n : Nat) (i j : Int) : (Datum.number s m i).sum (Datum.number s n j).opposite = some (.number
    (if signed s m (i - min i j).toNat + signed (!s) n (j - min i j).toNat = 0 then s && !s else decide (signed s m (i - min i j).toNat + signed (!s) n (j - min i j).toNat < 0))
    (signed s m (i - min i j).toNat + signed (!s) n (j - min i j).toNat).natAbs (min i j)) := rfl

/-- What is left over, 'v - math.Trunc(v)': exact; below a half or not. -/
theorem sub_word (hE : E ≤ 1070) (hF : F < 4503599627370496) : ∃ n r, double.sub (wd s (E * 4503599627370496 + F)) (wd s (rungOf (truncQ E F))) = some (wd n r) ∧ r < 9218868437227405312 ∧
    (leftQ E F < 2 ^ (1074 - E) → r < 1022 * 4503599627370496) ∧ (2 ^ (1074 - E) ≤ leftQ E F → 1022 * 4503599627370496 ≤ r) := by
  unfold Format.sub
  by_cases h0 : E = 0
  · subst h0
    rw [truncQ_zero 0 F hF (by omega), Nat.zero_mul, Nat.zero_add, read_sub s hF]
    have : rungOf 0 = 0 := rfl
    rw [this, read_zero, sub_number]
    have t : ((-1074 : Int) - min (-1074) (-1074)).toNat = 0 := by decide
    have eF : F * 2 ^ 0 - 0 * 2 ^ 0 = F := by omega
    rw [t, sub_abs s F 0 0 0 (by omega), eF]
    simp only [Option.map_some]
    refine ⟨_, _, congrArg some (nearest_sub _ hF), by omega, fun _ => by omega, fun hl => ?_⟩
    exfalso
    have h1 : leftQ 0 F ≤ 4503599627370496 + F := by unfold leftQ; exact Nat.mod_le _ _
    have hbig := pow_big (1074 - 0) (by omega)
    generalize 2 ^ (1074 - 0) = X at hl hbig
    omega
  by_cases h1 : E ≤ 1022
  · have hq := truncQ_zero E F hF h1
    have hleft : leftQ E F = 4503599627370496 + F := by
      have := Nat.div_add_mod (4503599627370496 + F) (2 ^ (1075 - E))
      unfold truncQ at hq
      rw [hq, Nat.mul_zero, Nat.zero_add] at this
      exact this
    rw [hq, read_norm s (by omega) (by omega) hF]
    have : rungOf 0 = 0 := rfl
    rw [this, read_zero, sub_number]
    have hm : min ((E : Int) - 1075) (-1074) = -1074 := by omega
    rw [hm]
    have t1 : ((E : Int) - 1075 - -1074).toNat = E - 1 := by omega
    have t2 : ((-1074 : Int) - -1074).toNat = 0 := by decide
    rw [t1, t2, sub_abs s (4503599627370496 + F) 0 (E - 1) 0 (by simp)]
    simp only [Option.map_some, Nat.zero_mul, Nat.sub_zero]
    have hp : ((E : Int) - 1075) - ((E - 1 : Nat) : Int) = -1074 := by omega
    have tt : (((E : Int) - 1075) + 1074).toNat = E - 1 := by omega
    have := fun n => nearest_down n (M := 4503599627370496 + F) (k := E - 1) (P := (E : Int) - 1075) (by omega) (by omega) (by omega) (by rw [tt]; omega)
    rw [hp] at this
    refine ⟨_, _, congrArg some (this _), ?_, fun hl => ?_, fun hl => ?_⟩
    · rw [tt]; omega
    · rw [tt]
      rw [hleft] at hl
      by_cases e22 : E = 1022
      · subst e22
        have : (2 : Nat) ^ (1074 - 1022) = 4503599627370496 := rfl
        omega
      · omega
    · rw [tt]
      rw [hleft] at hl
      by_cases e22 : E = 1022
      · subst e22; omega
      · exfalso
        have hbig := pow_big (1074 - E) (by omega)
        omega
  · obtain ⟨hq0, hql⟩ := truncQ_log E F hF (by omega) hE
    rw [read_norm s (by omega) (by omega) hF, read_int s hq0 (truncQ_lt E F hF), sub_number, hql]
    have hi : (((E - 1023 : Nat) : Int) - 52) = (E : Int) - 1075 := by omega
    rw [hi, Int.min_self]
    have t1 : ((E : Int) - 1075 - ((E : Int) - 1075)).toNat = 0 := by omega
    have e52 : 52 - (E - 1023) = 1075 - E := by omega
    have hdm := Nat.div_add_mod (4503599627370496 + F) (2 ^ (1075 - E))
    have hql' : truncQ E F * 2 ^ (1075 - E) + leftQ E F = 4503599627370496 + F := by
      unfold truncQ leftQ; rw [Nat.mul_comm]; exact hdm
    have hlt : leftQ E F < 2 ^ (1075 - E) := by unfold leftQ; exact Nat.mod_lt _ (Nat.two_pow_pos _)
    rw [t1, e52, sub_abs s (4503599627370496 + F) (truncQ E F * 2 ^ (1075 - E)) 0 0 (by omega)]
    have hfr : (4503599627370496 + F) * 2 ^ 0 - truncQ E F * 2 ^ (1075 - E) * 2 ^ 0 = leftQ E F := by omega
    rw [hfr]
    simp only [Option.map_some]
    have hb : 2 ^ (1075 - E) ≤ 4503599627370496 := by
      have : 2 ^ (1075 - E) ≤ 2 ^ 52 := Nat.pow_le_pow_right (by omega) (by omega)
      exact this
    by_cases hz : leftQ E F = 0
    · rw [hz]
      refine ⟨_, 0, congrArg some (nearest_zero _ _), by omega, fun _ => by omega, fun hl => ?_⟩
      have := Nat.two_pow_pos (1074 - E)
      omega
    · obtain ⟨fl, f1, f2⟩ := full hz (by omega)
      have l1 : (leftQ E F).log2 < 1075 - E := (Nat.log2_lt hz).2 hlt
      have tt : ((E : Int) - 1075 - ((52 - (leftQ E F).log2 : Nat) : Int) + 1074).toNat = E + (leftQ E F).log2 - 53 := by omega
      have := fun n => nearest_up n (m := leftQ E F) (j := 52 - (leftQ E F).log2) (P := (E : Int) - 1075) f1 f2 (by omega) (by rw [tt]; omega)
      rw [tt] at this
      refine ⟨_, _, congrArg some (this _), by omega, fun hl => ?_, fun hl => ?_⟩
      · have := (Nat.log2_lt hz).2 hl
        omega
      · have := (Nat.le_log2 hz).2 hl
        omega

theorem sum_same (m n : Nat) (u v : Nat) (A : Nat) (hA : m * 2 ^ u + n * 2 ^ v = A) (h0 : A ≠ 0) :
    (signed s m u + signed s n v).natAbs = A ∧ ¬ (signed s m u + signed s n v = 0) ∧ decide (signed s m u + signed s n v < 0) = s := by
  rw [signed_eq, signed_eq]
  generalize m * 2 ^ u = a at hA ⊢
  generalize n * 2 ^ v = b at hA ⊢
  cases s <;> simp <;> omega

theorem add_number (m n : Nat) (i j : Int) (A : Nat) (hA : m * 2 ^ (i - min i j).toNat + n * 2 ^ (j - min i j).toNat = A) (h0 : A ≠ 0) :
    (Datum.number s m i).sum (Datum.number s n j) = some (.number s A (min i j)) := by
  obtain ⟨a1, a2, a3⟩ := sum_same s m n _ _ A hA h0
  unfold Datum.sum
  simp only [a1, if_neg a2, a3]

/-- 't + 1' with the number's sign: exact. -/
theorem add_word {q : Nat} (hq : q ≤ 281474976710656) : double.add (wd s (rungOf q)) (wd s (1023 * 4503599627370496)) = some (wd s (rungOf (q + 1))) := by
  unfold Format.add
  have r1 := read_norm s (E := 1023) (F := 0) (by omega) (by omega) (by omega)
  rw [Nat.add_zero, Nat.add_zero] at r1
  have r2 : (((1023 : Nat) : Int) - 1075) = -52 := by decide
  rw [r2] at r1
  rw [r1]
  by_cases h0 : q = 0
  · subst h0
    have : rungOf 0 = 0 := rfl
    rw [this, read_zero]
    obtain ⟨k, hk⟩ : ∃ k : Nat, k = 1022 := ⟨_, rfl⟩
    have hm : min (-1074 : Int) (-52) = -1074 := by decide
    have t2 : ((-52 : Int) - -1074).toNat = k := by omega
    have hpos := Nat.two_pow_pos k
    rw [add_number s 0 4503599627370496 (-1074) (-52) (4503599627370496 * 2 ^ k) (by rw [hm, t2, Nat.zero_mul, Nat.zero_add]) (by omega), hm]
    have n1 := nearest_down s (M := 4503599627370496) (k := k) (P := -52) (by omega) (by omega) (by omega) (by decide)
    have p1 : (-52 : Int) - (k : Int) = -1074 := by omega
    rw [p1] at n1
    simp only [Option.map_some]
    show some (double.nearest s (4503599627370496 * 2 ^ k) (-1074)) = _
    rw [n1]
    rfl
  · obtain ⟨hl, f1, f2⟩ := full h0 (by omega)
    obtain ⟨hL, g1, g2⟩ := full (q := q + 1) (by omega) (by omega)
    rw [read_int s h0 (by omega)]
    have hm : min ((q.log2 : Int) - 52) (-52) = -52 := by omega
    have t1 : ((q.log2 : Int) - 52 - -52).toNat = q.log2 := by omega
    have t2 : ((-52 : Int) - -52).toNat = 0 := by decide
    have e : q * 2 ^ (52 - q.log2) * 2 ^ q.log2 = q * 4503599627370496 := by
      rw [Nat.mul_assoc, ← Nat.pow_add, show 52 - q.log2 + q.log2 = 52 by omega]
    have hmg : (q + 1) * 2 ^ (52 - (q + 1).log2) * 2 ^ (q + 1).log2 = (q + 1) * 4503599627370496 := by
      rw [Nat.mul_assoc, ← Nat.pow_add, show 52 - (q + 1).log2 + (q + 1).log2 = 52 by omega]
    rw [add_number s (q * 2 ^ (52 - q.log2)) 4503599627370496 ((q.log2 : Int) - 52) (-52) ((q + 1) * 4503599627370496) (by rw [hm, t1, t2, e]; omega) (by omega), hm]
    have tt : (((q + 1).log2 : Int) - 52 + 1074).toNat = (q + 1).log2 + 1022 := by omega
    have n1 := nearest_down s (M := (q + 1) * 2 ^ (52 - (q + 1).log2)) (k := (q + 1).log2) (P := ((q + 1).log2 : Int) - 52) g1 g2 (by omega) (by rw [tt]; omega)
    have hpl : (((q + 1).log2 : Int) - 52 - ((q + 1).log2 : Nat)) = -52 := by omega
    rw [hpl, hmg, tt] at n1
    simp only [Option.map_some]
    show some (double.nearest s ((q + 1) * 4503599627370496) (-52)) = _
    rw [n1]
    unfold rungOf
    rw [if_neg (by omega)]
end
end Go.Proofs.YbulkdqguFmt
