/-
  'Validate', 'MeanTimeOffset' AND THE LAW ITSELF, WALKED.
-/
import Derived.Test.YbulkdqguFmtErrorf
namespace Go.Proofs.YbulkdqguFmt
open Go.RowKit

/-- Not a number. -/
theorem val_nan (b : Nat) (w : World) (h : FloatKind.f64.format.order b b = none) :
    Calls Ybaf.prog 10 #[.float .f64 b] w fun e w' => (∃ a, e = .returned (.iface 61 (.pointer (some a)))) ∧ Below w.heap.size w w' := by
  go_enter Ybaf.func10, Ybaf.ntmps10
  go_wp2_with (first | (go_at_call 17; refine (errorf17 _ b _ (by go_simp) (by go_simp) (by go_simp)).mono ?_; rintro e w1 ⟨rfl, hb1⟩) | go_in)
  go_ret
  exact ⟨⟨_, rfl⟩, ((Below.refl _ _).alloc (Nat.le_refl _) _).trans (hb1.mono (by simp))⟩

/-- Beyond 180. -/
theorem val_big (b a : Nat) (w : World) (h : FloatKind.f64.format.order b b = some .eq) (hA : ∀ wx, Calls Ybaf.prog 13 #[.float .f64 b] wx fun e w' => e = .returned (.float .f64 a) ∧ w' = wx) (h2 : FloatKind.f64.format.order a 4640537203540230144 = some .gt) :
    Calls Ybaf.prog 10 #[.float .f64 b] w fun e w' => (∃ a, e = .returned (.iface 61 (.pointer (some a)))) ∧ Below w.heap.size w w' := by
  go_enter Ybaf.func10, Ybaf.ntmps10
  go_wp2_with (first | (go_at_call 17; refine (errorf17 _ b _ (by go_simp) (by go_simp) (by go_simp)).mono ?_; rintro e w1 ⟨rfl, hb1⟩) | (go_at_call 13; refine (hA _).mono ?_; rintro e w' ⟨rfl, rfl⟩) | go_in)
  go_ret
  exact ⟨⟨_, rfl⟩, ((Below.refl _ _).alloc (Nat.le_refl _) _).trans (hb1.mono (by simp))⟩

/-- A longitude. -/
theorem val_ok (b a : Nat) (w : World) (h : FloatKind.f64.format.order b b = some .eq) (hA : ∀ wx, Calls Ybaf.prog 13 #[.float .f64 b] wx fun e w' => e = .returned (.float .f64 a) ∧ w' = wx) (h2 : (FloatKind.f64.format.order a 4640537203540230144 == some .gt) = false) :
    Calls Ybaf.prog 10 #[.float .f64 b] w fun e w' => e = .returned .nilIface ∧ w' = w := by
  go_enter Ybaf.func10, Ybaf.ntmps10
  go_wp2_with (first | (go_at_call 13; refine (hA _).mono ?_; rintro e w' ⟨rfl, rfl⟩) | go_in)
  go_ret
  exact ⟨rfl, rfl⟩

/-- Refused. -/
theorem mean_err (b : Nat) (w : World) (hV : Calls Ybaf.prog 10 #[.float .f64 b] w fun e w' => (∃ a, e = .returned (.iface 61 (.pointer (some a)))) ∧ Below w.heap.size w w') :
    Calls Ybaf.prog 5 #[.float .f64 b] w fun e w' => (∃ a, e = .returned (.tuple #[.int .i64 0, .iface 61 (.pointer (some a))])) ∧ Below w.heap.size w w' := by
  go_enter Ybaf.func5, Ybaf.ntmps5
  go_wp2_with (go_at_call 10; refine hV.mono ?_; rintro e w1 ⟨⟨a, rfl⟩, hb1⟩)
  go_ret2
  exact ⟨⟨_, rfl⟩, hb1⟩

/-- 240 seconds a degree, to the nearest nanosecond. -/
theorem mean_ok (b v1 v q : Nat) (n : Int) (w : World) (hV : ∀ wx, Calls Ybaf.prog 10 #[.float .f64 b] wx fun e w' => e = .returned .nilIface ∧ w' = wx) (h1 : floatBits .mul .f64 b 4642648265865560064 = some v1) (h2 : floatBits .mul .f64 v1 4741671816366391296 = some v)
    (hR : ∀ wx, Calls Ybaf.prog 11 #[.float .f64 v] wx fun e w' => e = .returned (.float .f64 q) ∧ w' = wx) (hn : floatToIntVal .f64 q .i64 = some n) :
    Calls Ybaf.prog 5 #[.float .f64 b] w fun e w' => e = .returned (.tuple #[.int .i64 n, .nilIface]) ∧ w' = w := by
  have m1 := fun wx => run_float_arith (P := Ybaf.prog) wx .mul 22 .f64 b _ v1 h1
  have m2 := fun wx => run_float_arith (P := Ybaf.prog) wx .mul 22 .f64 v1 _ v h2
  have c := fun wx => run_convert_float_int (P := Ybaf.prog) wx 22 23 .f64 .i64 q n (by kernel_rfl) Ybaf.underlying23 hn
  clear h1 h2 hn
  go_enter Ybaf.func5, Ybaf.ntmps5
  go_wp2_with (first | (go_at_call 10; refine (hV _).mono ?_; rintro e w' ⟨rfl, rfl⟩) | (go_at_call 11; refine (hR _).mono ?_; rintro e w' ⟨rfl, rfl⟩))
  go_ret2
  exact ⟨rfl, rfl⟩

/-- The law, not a number. -/
theorem law_nan (b : Nat) (w : World) (h : FloatKind.f64.format.order b b = none) : Calls Ybaf.prog 3 #[.float .f64 b] w fun e w' => e = .returned (.bool true) ∧ Below w.heap.size w w' := by
  have hM := mean_err b w (val_nan b w h)
  go_enter Ybaf.func3, Ybaf.ntmps3
  go_wp2_with (go_at_call 5; refine hM.mono ?_; rintro e w1 ⟨⟨a, rfl⟩, hb1⟩)
  go_ret
  exact ⟨rfl, hb1⟩

/-- The law, beyond 180 degrees east. -/
theorem law_east (b : Nat) (w : World) (hV : Calls Ybaf.prog 10 #[.float .f64 b] w fun e w' => (∃ a, e = .returned (.iface 61 (.pointer (some a)))) ∧ Below w.heap.size w w') (h : FloatKind.f64.format.order b b = some .eq) (h2 : FloatKind.f64.format.order b 4640537203540230144 = some .gt) :
    Calls Ybaf.prog 3 #[.float .f64 b] w fun e w' => e = .returned (.bool true) ∧ Below w.heap.size w w' := by
  have hM := mean_err b w hV
  clear hV
  go_enter Ybaf.func3, Ybaf.ntmps3
  go_wp2_with (go_at_call 5; refine hM.mono ?_; rintro e w1 ⟨⟨a, rfl⟩, hb1⟩)
  go_ret
  exact ⟨rfl, hb1⟩

/-- The law, beyond 180 degrees west. -/
theorem law_west (b : Nat) (w : World) (hV : Calls Ybaf.prog 10 #[.float .f64 b] w fun e w' => (∃ a, e = .returned (.iface 61 (.pointer (some a)))) ∧ Below w.heap.size w w') (h : FloatKind.f64.format.order b b = some .eq) (h2 : FloatKind.f64.format.order b 4640537203540230144 = some .lt)
    (h3 : FloatKind.f64.format.order b 13863909240395005952 = some .lt) :
    Calls Ybaf.prog 3 #[.float .f64 b] w fun e w' => e = .returned (.bool true) ∧ Below w.heap.size w w' := by
  have hM := mean_err b w hV
  clear hV
  go_enter Ybaf.func3, Ybaf.ntmps3
  go_wp2_with (go_at_call 5; refine hM.mono ?_; rintro e w1 ⟨⟨a, rfl⟩, hb1⟩)
  go_ret
  exact ⟨rfl, hb1⟩

/-- The law at a longitude. -/
theorem law_ok (b v1 v q : Nat) (n : Int) (w : World) (hM : ∀ wx, Calls Ybaf.prog 5 #[.float .f64 b] wx fun e w' => e = .returned (.tuple #[.int .i64 n, .nilIface]) ∧ w' = wx) (h : FloatKind.f64.format.order b b = some .eq)
    (h2 : (FloatKind.f64.format.order b 4640537203540230144 == some .gt) = false) (h3 : (FloatKind.f64.format.order b 13863909240395005952 == some .lt) = false)
    (e1 : floatBits .mul .f64 b 4642648265865560064 = some v1) (e2 : floatBits .mul .f64 v1 4741671816366391296 = some v)
    (hZ : ∀ wx, Calls Ybaf.prog 6 #[.float .f64 v] wx fun e w' => e = .returned (.float .f64 q) ∧ w' = wx) (hn : floatToIntVal .f64 q .i64 = some n) :
    Calls Ybaf.prog 3 #[.float .f64 b] w fun e w' => e = .returned (.bool true) ∧ Below w.heap.size w w' := by
  have m1 := fun wx => run_float_arith (P := Ybaf.prog) wx .mul 22 .f64 b _ v1 e1
  have m2 := fun wx => run_float_arith (P := Ybaf.prog) wx .mul 22 .f64 v1 _ v e2
  have c := fun wx => run_convert_float_int (P := Ybaf.prog) wx 22 2 .f64 .i64 q n (by kernel_rfl) Ybaf.underlying2 hn
  clear e1 e2 hn
  go_enter Ybaf.func3, Ybaf.ntmps3
  go_wp2_with (first | (go_at_call 5; refine (hM _).mono ?_; rintro e w' ⟨rfl, rfl⟩) | (go_at_call 6; refine (hZ _).mono ?_; rintro e w' ⟨rfl, rfl⟩))
  go_ret
  exact ⟨rfl, Below.refl _ _⟩
end Go.Proofs.YbulkdqguFmt
