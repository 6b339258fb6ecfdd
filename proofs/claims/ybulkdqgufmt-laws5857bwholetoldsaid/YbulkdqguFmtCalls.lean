/-
  THE FUNCTIONS OF PACKAGE math ON THE ROAD, AND THE LAW's OWN ROUNDING: a contract each.
-/
import Derived.Test.YbulkdqguFmtCards
import Derived.Test.YbulkdqguFmtBits
import Derived.WalkKit
import Derived.WalkSpells
import Derived.WalkLawsBesides
import Derived.Laws.FloatArith
import Derived.Laws.Externs
namespace Go.Proofs.YbulkdqguFmt
open Go.RowKit

theorem bits18 (b : Nat) (w : World) : (callFunc 18 #[.float .f64 b]).run Ybaf.prog w = .ok (.value (.int .u64 b)) w := by kernel_rfl
theorem from19 (n : Int) (w : World) : (callFunc 19 #[.int .u64 n]).run Ybaf.prog w = .ok (.value (.float .f64 n.toNat)) w := by kernel_rfl

theorem ret_float {a b : Nat} (h : a = b) : Ending.returned (.float .f64 a) = .returned (.float .f64 b) := by rw [h]

theorem abs_raw (b : Nat) (w : World) : Calls Ybaf.prog 13 #[.float .f64 b] w fun e w' => e = .returned (.float .f64 (bits .andNot .u64 (b : Int) 9223372036854775808).toNat) ∧ w' = w := by
  have h18 := bits18
  have h19 := from19
  go_enter Ybaf.func13, Ybaf.ntmps13
  go_wp2
  go_ret
  exact ⟨rfl, rfl⟩

/-- math.Abs. -/
theorem abs13 (s : Bool) (r : Nat) (w : World) (hr : r < 9223372036854775808) : Calls Ybaf.prog 13 #[.float .f64 (wd s r)] w fun e w' => e = .returned (.float .f64 (wd false r)) ∧ w' = w := by
  refine (abs_raw (wd s r) w).mono fun e w' ⟨he, hw⟩ => ⟨?_, hw⟩
  rw [he]
  exact ret_float (by rw [abs_bits s hr, wd_false]; rfl)

theorem copy_raw (a b : Nat) (w : World) : Calls Ybaf.prog 14 #[.float .f64 a, .float .f64 b] w fun e w' =>
    e = .returned (.float .f64 (bits .or .u64 (bits .andNot .u64 (a : Int) 9223372036854775808) (bits .and .u64 (b : Int) 9223372036854775808)).toNat) ∧ w' = w := by
  have h18 := bits18
  have h19 := from19
  go_enter Ybaf.func14, Ybaf.ntmps14
  go_wp2
  go_ret
  exact ⟨rfl, rfl⟩

/-- math.Copysign(1, v). -/
theorem copy14 (s : Bool) (r : Nat) (w : World) (hr : r < 9223372036854775808) : Calls Ybaf.prog 14 #[.float .f64 4607182418800017408, .float .f64 (wd s r)] w fun e w' => e = .returned (.float .f64 (wd s (1023 * 4503599627370496))) ∧ w' = w := by
  refine (copy_raw 4607182418800017408 (wd s r) w).mono fun e w' ⟨he, hw⟩ => ⟨?_, hw⟩
  rw [he]
  have h1 := abs_bits false (r := 4607182418800017408) (by omega)
  rw [wd_false] at h1
  refine ret_float ?_
  rw [h1, sign_bits s hr, join_bits' s (by omega)]
  rfl

theorem round_a (b E : Nat) (w : World) (hE : bits .and .u64 ((b : Int) / 4503599627370496) 2047 = (E : Int)) (h : E < 1022) :
    Calls Ybaf.prog 11 #[.float .f64 b] w fun e w' => e = .returned (.float .f64 (bits .and .u64 (b : Int) 9223372036854775808).toNat) ∧ w' = w := by
  have h18 := bits18
  have h19 := from19
  have hz : (E : Int) < 1023 := by omega
  have hne : ((E : Int) == 1022) = false := by simp; omega
  go_enter Ybaf.func11, Ybaf.ntmps11
  go_wp2
  go_ret
  exact ⟨rfl, rfl⟩

theorem round_b (b : Nat) (w : World) (hE : bits .and .u64 ((b : Int) / 4503599627370496) 2047 = 1022) :
    Calls Ybaf.prog 11 #[.float .f64 b] w fun e w' => e = .returned (.float .f64 (bits .or .u64 (bits .and .u64 (b : Int) 9223372036854775808) 4607182418800017408).toNat) ∧ w' = w := by
  have h18 := bits18
  have h19 := from19
  go_enter Ybaf.func11, Ybaf.ntmps11
  go_wp2
  go_ret
  exact ⟨rfl, rfl⟩

theorem round_c (b E : Nat) (w : World) (hE : bits .and .u64 ((b : Int) / 4503599627370496) 2047 = (E : Int)) (h : 1023 ≤ E) (h2 : E ≤ 1070) :
    Calls Ybaf.prog 11 #[.float .f64 b] w fun e w' => e = .returned (.float .f64 (bits .andNot .u64 (IntKind.u64.wrap ((b : Int) + 2251799813685248 / 2 ^ (E - 1023))) (4503599627370495 / 2 ^ (E - 1023))).toNat) ∧ w' = w := by
  have h18 := bits18
  have h19 := from19
  have hz : ¬ (E : Int) < 1023 := by omega
  have hy : (E : Int) < 1075 := by omega
  go_enter Ybaf.func11, Ybaf.ntmps11
  go_wp2
  go_ret
  exact ⟨rfl, rfl⟩

/-- math.Round. -/
theorem round11 (s : Bool) (E F : Nat) (w : World) (hE : E ≤ 1070) (hF : F < 4503599627370496) :
    Calls Ybaf.prog 11 #[.float .f64 (wd s (E * 4503599627370496 + F))] w fun e w' => e = .returned (.float .f64 (wd s (rungOf (roundQ E F)))) ∧ w' = w := by
  have he := exp_bits s hE hF
  by_cases h1 : E < 1022
  · refine (round_a _ E w he h1).mono fun e w' ⟨he', hw⟩ => ⟨?_, hw⟩
    rw [he', roundQ_small hF h1]
    exact ret_float (by rw [sign_bits s (by omega)]; rfl)
  by_cases h2 : E = 1022
  · subst h2
    refine (round_b _ w he).mono fun e w' ⟨he', hw⟩ => ⟨?_, hw⟩
    rw [he', roundQ_half hF]
    refine ret_float ?_
    have := join_bits s (r := 4607182418800017408) (by omega)
    rw [sign_bits s (by omega)]
    exact congrArg Int.toNat this
  · refine (round_c _ E w he (by omega) hE).mono fun e w' ⟨he', hw⟩ => ⟨?_, hw⟩
    rw [he']
    exact ret_float (by rw [round_bits s hF (by omega) hE]; rfl)

theorem func20_name : (Ybaf.f20.name == "runtime.NumGoroutine") = false := by kernel_rfl
theorem func20_body : Ybaf.f20.body.isNone = true := by kernel_rfl

theorem arch20 (b : Nat) (s : Bool) (m : Nat) (i : Int) (hd : Ieee.double.read b = .number s m i) (w : World) :
    (callFunc 20 #[.float .f64 b]).run Ybaf.prog w = .ok (.value (.float .f64 (Ieee.double.write ((Ieee.double.read b).integral .zero)))) w := by
  have hfn : Extern.findNext Ybaf.f20 = none := by kernel_rfl
  have hf : Extern.find Ybaf.f20 = some (Extern.MathFloor.toIntegral "math.archTrunc" .zero) := by kernel_rfl
  rw [run_callFunc_extern Ybaf.func20 func20_name func20_body hfn hf]
  have hd' : FloatKind.f64.decode b = .number s m i := hd
  have : (Extern.MathFloor.toIntegral "math.archTrunc" .zero #[.float .f64 b]).run Ybaf.prog w = .ok (.float .f64 (Ieee.double.write ((Ieee.double.read b).integral .zero))) w := by
    change Sem.run Ybaf.prog (Extern.MathFloor.toIntegral.match_1 (fun _ => Sem Value) (FloatKind.f64.decode b) _ (fun d => pure (.float .f64 (FloatKind.f64.encode (d.integral .zero))))) w = _
    rw [hd', hd]
    rfl
  rw [this]
  rfl

/-- math.Trunc. -/
theorem trunc12 (s : Bool) (E F : Nat) (w : World) (hE : E ≤ 1070) (hF : F < 4503599627370496) :
    Calls Ybaf.prog 12 #[.float .f64 (wd s (E * 4503599627370496 + F))] w fun e w' => e = .returned (.float .f64 (wd s (rungOf (truncQ E F)))) ∧ w' = w := by
  obtain ⟨m, i, hr, _⟩ := read_finite (show E * 4503599627370496 + F < 9218868437227405312 by omega)
  have h20 := fun wx => arch20 _ s m i (hr s) wx
  simp only [trunc_word s E F hE hF] at h20
  clear hr
  generalize wd s (E * 4503599627370496 + F) = v at h20 ⊢
  generalize wd s (rungOf (truncQ E F)) = t at h20 ⊢
  go_enter Ybaf.func12, Ybaf.ntmps12
  go_wp2
  go_ret
  exact ⟨rfl, rfl⟩
end Go.Proofs.YbulkdqguFmt
