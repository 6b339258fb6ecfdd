/-
  THE LAW's OWN ROUNDING, 'zzs5857bround'.
-/
import Derived.Test.YbulkdqguFmtCalls
namespace Go.Proofs.YbulkdqguFmt
open Go.RowKit

theorem zz_low (v t d a : Nat) (w : World) (hT : ∀ wx, Calls Ybaf.prog 12 #[.float .f64 v] wx fun e w' => e = .returned (.float .f64 t) ∧ w' = wx) (hsub : floatBits .sub .f64 v t = some d)
    (hA : ∀ wx, Calls Ybaf.prog 13 #[.float .f64 d] wx fun e w' => e = .returned (.float .f64 a) ∧ w' = wx) (ho : FloatKind.f64.format.order a 4602678819172646912 = some .lt) :
    Calls Ybaf.prog 6 #[.float .f64 v] w fun e w' => e = .returned (.float .f64 t) ∧ w' = w := by
  have hs := fun wx => run_float_arith (P := Ybaf.prog) wx .sub 22 .f64 v t d hsub
  clear hsub
  go_enter Ybaf.func6, Ybaf.ntmps6
  go_wp2_with (first | (go_at_call 12; refine (hT _).mono ?_; rintro e w' ⟨rfl, rfl⟩) | (go_at_call 13; refine (hA _).mono ?_; rintro e w' ⟨rfl, rfl⟩))
  go_ret
  exact ⟨rfl, rfl⟩

theorem zz_high (v t d a o t2 : Nat) (w : World) (hT : ∀ wx, Calls Ybaf.prog 12 #[.float .f64 v] wx fun e w' => e = .returned (.float .f64 t) ∧ w' = wx) (hsub : floatBits .sub .f64 v t = some d)
    (hA : ∀ wx, Calls Ybaf.prog 13 #[.float .f64 d] wx fun e w' => e = .returned (.float .f64 a) ∧ w' = wx) (ho : FloatKind.f64.format.order a 4602678819172646912 = some .gt ∨ FloatKind.f64.format.order a 4602678819172646912 = some .eq)
    (hC : ∀ wx, Calls Ybaf.prog 14 #[.float .f64 4607182418800017408, .float .f64 v] wx fun e w' => e = .returned (.float .f64 o) ∧ w' = wx) (hadd : floatBits .add .f64 t o = some t2) :
    Calls Ybaf.prog 6 #[.float .f64 v] w fun e w' => e = .returned (.float .f64 t2) ∧ w' = w := by
  have hs := fun wx => run_float_arith (P := Ybaf.prog) wx .sub 22 .f64 v t d hsub
  have hp := fun wx => run_float_arith (P := Ybaf.prog) wx .add 22 .f64 t o t2 hadd
  clear hsub hadd
  rcases ho with ho | ho
  all_goals
    go_enter Ybaf.func6, Ybaf.ntmps6
    go_wp2_with (first | (go_at_call 12; refine (hT _).mono ?_; rintro e w' ⟨rfl, rfl⟩) | (go_at_call 13; refine (hA _).mono ?_; rintro e w' ⟨rfl, rfl⟩) | (go_at_call 14; refine (hC _).mono ?_; rintro e w' ⟨rfl, rfl⟩))
    go_ret
    exact ⟨rfl, rfl⟩

/-- To the nearest whole number, halves away from zero. -/
theorem zz6 (s : Bool) (E F : Nat) (w : World) (hE : E ≤ 1070) (hF : F < 4503599627370496) :
    Calls Ybaf.prog 6 #[.float .f64 (wd s (E * 4503599627370496 + F))] w fun e w' => e = .returned (.float .f64 (wd s (rungOf (roundQ E F)))) ∧ w' = w := by
  obtain ⟨n, r, hsub, hr, hlow, hhigh⟩ := sub_word s E F hE hF
  by_cases hl : leftQ E F < 2 ^ (1074 - E)
  · rw [round_low E F (by omega) hl]
    exact zz_low _ _ _ _ w (fun wx => trunc12 s E F wx hE hF) hsub (fun wx => abs13 n r wx (by omega)) (order_half_lt (hlow hl))
  · rw [round_high E F (by omega) (by omega)]
    exact zz_high _ _ _ _ _ _ w (fun wx => trunc12 s E F wx hE hF) hsub (fun wx => abs13 n r wx (by omega)) (order_half_ge (hhigh (by omega)) hr)
      (fun wx => copy14 s _ wx (by omega)) (add_word s (truncQ_le hF hE))
end Go.Proofs.YbulkdqguFmt
