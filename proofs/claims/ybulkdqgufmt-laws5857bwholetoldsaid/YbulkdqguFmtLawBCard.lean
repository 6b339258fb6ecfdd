/-
  THE TOLD CARD OF 'analemma.LawS5857BWhole': from the walks to the statement.
-/
import Derived.Test.YbulkdqguFmtWalk
import Derived.ProofKit
import Derived.Stop.JoinedAt
import Derived.Stop.JoinedTold
import Derived.SevenToldRow
namespace Go.Proofs.YbulkdqguFmt
open Go.ChangeShapes Go.WideShapes Go.ChangeAt Go.RowKit
open Go.Extern.Stop Go.Stop Go.Extern

/-- A whole number below 2^53 in a double, as an int64. -/
theorem toInt_val (s : Bool) {q : Nat} (h : q ≤ 281474976710656) : floatToIntVal .f64 (wd s (rungOf q)) .i64 = some (if s then -(q : Int) else q) := by
  have hd : (FloatKind.f64.decode (wd s (rungOf q))).toInt .zero = some (if s then -(q : Int) else q) := toInt_int s (by omega)
  unfold floatToIntVal
  rw [hd]
  have h1 : IntKind.i64.min = -9223372036854775808 := rfl
  have h2 : IntKind.i64.max = 9223372036854775807 := rfl
  simp only [h1, h2]
  rw [if_pos]
  cases s <;> simp <;> omega

/-- THE LAW, at every double. -/
theorem law_any (b : Nat) (hb : b < 18446744073709551616) (w : World) : Calls Ybaf.prog 3 #[.float .f64 b] w fun e w' => e = .returned (.bool true) ∧ Below w.heap.size w w' := by
  obtain ⟨s, r, rfl, hr⟩ := word_split b hb
  by_cases hn : 9218868437227405312 < r
  · exact law_nan _ w (order_nan hn hr _)
  have hs : FloatKind.f64.format.order (wd s r) (wd s r) = some .eq := order_self (by omega)
  rcases order_180 s (show r ≤ 9218868437227405312 by omega) with ⟨h0, h1, h2⟩ | ⟨hlt, h0, h1, h2⟩
  · have hV := val_big (wd s r) (wd false r) w hs (fun wx => abs13 s r wx hr) h0
    cases s
    · exact law_east _ w hV hs (h1 rfl)
    · exact law_west _ w hV hs (h2 rfl).1 (h2 rfl).2
  · have hV := fun wx => val_ok (wd s r) (wd false r) wx hs (fun wx => abs13 s r wx hr) h0
    obtain ⟨r1, e1, hr1⟩ := mul_240 s hlt
    obtain ⟨r2, e2, hr2⟩ := mul_1e9 s hr1
    obtain ⟨E, F, rfl, hE, hF⟩ : ∃ E F, r2 = E * 4503599627370496 + F ∧ E ≤ 1070 ∧ F < 4503599627370496 := ⟨r2 / 4503599627370496, r2 % 4503599627370496, by omega, by omega, by omega⟩
    have hI := toInt_val s (roundQ_lt hF hE)
    have hM := fun wx => mean_ok (wd s r) _ _ _ _ wx hV e1 e2 (fun wy => round11 s E F wy hE hF) hI
    exact law_ok _ _ _ _ _ w hM hs h1 h2 e1 e2 (fun wy => zz6 s E F wy hE hF) hI

theorem own : ownKnob Ybaf.prog.godebug = none := by kernel_rfl
theorem laidOut : laidOutB Ybaf.pinned.checked.prog = true := by kernel_rfl
theorem stopsAre : Ybaf.pinned.checked.prog.stops = Rows.lawS5857BWholeRow.stops := by kernel_rfl
theorem stopKnobsAre : Ybaf.pinned.checked.prog.stopKnobs = [] := by kernel_rfl
theorem quietAll (os : Os) : Stop.quiet Ybaf.pinned.checked.prog os := by
  intro k hk
  rw [stopKnobsAre] at hk
  cases hk

set_option maxRecDepth 100000 in
theorem lifted (os : Os) (started : os.Started) (H : Type) (enc : TypeId × Value → H) :
    ReturnsInTold none {} Ybaf.checked os 3 .any Input.okWide ((OpenSpec.ofChange Rows.lawS5857BWholeSpec).preRow enc Ybaf.prog Ybaf.f3 [] false []) (fun F => ((OpenSpec.ofChange Rows.lawS5857BWholeSpec).at F).post enc Ybaf.prog Ybaf.f3 false true false false) (aloneAtReturn Ybaf.prog) nothingAlways := by
  refine returnsInTold_of_row (C := Ybaf.checked) (s := OpenSpec.ofChange Rows.lawS5857BWholeSpec) (by kernel_rfl) own started (by kernel_rfl) Ybaf.func3
    (OpenSpec.witness_stopped (enc := enc) (C := Ybaf.checked) false ⟨#[], #[.float .f64 0], []⟩ 8 (by kernel_rfl) (by kernel_rfl) (by kernel_rfl) (by kernel_rfl)) ?_
  intro F W base args ds gs before _ hF hval0 hW _ _ _ _ _
  have hval : ∀ (j : Nat) t v, Ybaf.f3.params[j]? = some t → args[j]? = some v → Value.okWide Ybaf.prog W .any base t v := hval0
  have hW' := hW
  obtain ⟨p, q, hA0, hV, rfl, hfz, hnd⟩ := hW
  have hA : DataW.TrodAll enc Ybaf.prog W 0 (fun _ => true) true Ybaf.f3.params.toList args.toList ds p := hA0
  rw [Ybaf.params3] at hA hval
  obtain ⟨v0, d0, rfl, rfl, h0⟩ := trodAll_one hA
  obtain ⟨rfl, rfl⟩ := trodVars_none hV
  obtain ⟨b, rfl, rfl, rfl, wb⟩ := open_float Ybaf.underlying22 (hval 0 22 v0 rfl rfl) h0
  clear hA0 hval0
  have hb : b < 18446744073709551616 := by
    have := wb
    simpa [Lit.wf] using this
  refine (law_any b hb W).mono fun e W' ⟨he, hB⟩ => ?_
  subst he
  refine ⟨_, rfl, _, _, _, [], [], [], hW', ?_, ?_, rfl, hB.frame _, fun h => by cases h⟩
  · exact trodAll_mk1 (shut_bool Ybaf.underlying4 _)
  · exact trodAll_mk1 (shut_float Ybaf.underlying22 wb)

/-- THE STATEMENT. -/
theorem law_told : Rows.LawS5857BWholeToldSaid :=
  Claim7.holds_of_told_any 3 Ybaf.f3 _ _ [] _ _ _ (by kernel_rfl) rfl rfl rfl laidOut (by kernel_rfl) rfl ⟨rfl, rfl, rfl, rfl, rfl, rfl, rfl⟩ rfl rfl (by kernel_rfl) (by kernel_rfl) Ybaf.func3 (by kernel_rfl)
    (of_decide_eq_true (by kernel_rfl)) (of_decide_eq_true (by kernel_rfl)) stopsAre.symm rfl stopKnobsAre.symm (by kernel_rfl)
    (by kernel_rfl) (by kernel_rfl) (by kernel_rfl) (by kernel_rfl) (by kernel_rfl) (by kernel_rfl) (by kernel_rfl) (by kernel_rfl) (by kernel_rfl) rfl (by kernel_rfl) rfl rfl
    rfl rfl
    rfl (by kernel_rfl) (by kernel_rfl) (by kernel_rfl) (by decide) (by kernel_rfl)
    (OpenClaim.moreEntering_of (by kernel_rfl) (by kernel_rfl) (by kernel_rfl) (by kernel_rfl) (by kernel_rfl) (by kernel_rfl) (by kernel_rfl) (by kernel_rfl) (by kernel_rfl) (by kernel_rfl))
    ⟨_, WideRow.started_initial, quietAll _⟩
    (fun os started _ H enc _ => lifted os started H enc)
end Go.Proofs.YbulkdqguFmt
