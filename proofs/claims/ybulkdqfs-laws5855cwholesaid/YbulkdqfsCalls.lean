/-
  THE CALLEES OF 'config.LawS5855CWhole', A CONTRACT EACH.
-/
import Derived.Test.YbulkdqfsRows
import Derived.WalkKit
import Derived.WalkSpells
import Derived.BigQuiet
import Derived.Deep.QuietTactic
namespace Go.Proofs.Ybulkdqfs
open Go.RowKit
set_option linter.unusedVariables false      -- bounds that the walk alone uses

/-- Does s begin with p? -/
def hasPre (s p : ByteArray) : Bool := (s.extract 0 p.size).toList == p.toList
/-- What strings.CutPrefix gives first. -/
def cutPre (s p : ByteArray) : ByteArray := if hasPre s p then s.extract p.size s.size else s

theorem hasPre_short {s p : ByteArray} (h : ¬ p.size ≤ s.size) : hasPre s p = false := by
  unfold hasPre
  rw [beq_eq_false_iff_ne]
  intro e
  have := congrArg List.length e
  rw [ByteArray.toList_eq, ByteArray.toList_eq] at this
  simp only [Array.length_toList] at this
  have e1 : (s.extract 0 p.size).data.size = (s.extract 0 p.size).size := rfl
  have e2 : p.data.size = p.size := rfl
  rw [e1, e2] at this
  simp at this
  omega
theorem hasPre_size {s p : ByteArray} (h : hasPre s p = true) : p.size ≤ s.size := by
  refine Decidable.byContradiction fun hn => ?_
  rw [hasPre_short hn] at h
  cases h

theorem has_any (s p : ByteArray) (w : World) (hs : s.size ≤ 16777216) (hp : p.size ≤ 16777216) :
    Calls Yba.prog 11 #[.string s, .string p] w fun e w' => e = .returned (.bool (hasPre s p)) ∧ w' = w := by
  by_cases h : p.size ≤ s.size
  · go_enter Yba.func11, Yba.ntmps11
    go_wp2
    go_ret
    exact ⟨rfl, rfl⟩
  · have e := hasPre_short h
    go_enter Yba.func11, Yba.ntmps11
    go_wp2
    go_ret
    exact ⟨by rw [e]; rfl, rfl⟩

theorem pre_any (n : Int) (w : World) (h0 : 0 ≤ n) (h1 : n ≤ 255) :
    Calls Yba.prog 4 #[.int .u8 n] w fun e w' => (∃ s : ByteArray, e = .returned (.string s) ∧ s.size ≤ 15) ∧ w' = w := by
  go_enter Yba.func4, Yba.ntmps4
  go_wp2
  all_goals
    go_ret
    exact ⟨⟨_, rfl, by decide⟩, rfl⟩

theorem cut9 (s p : ByteArray) (w : World) (hs : s.size ≤ 16777216) (hp : p.size ≤ 16777216) :
    Calls Yba.prog 9 #[.string s, .string p] w fun e w' => e = .returned (.tuple #[.string (cutPre s p), .bool (hasPre s p)]) ∧ w' = w := by
  cases h : hasPre s p with
  | true =>
    have hl := hasPre_size h
    have e : cutPre s p = s.extract p.size s.size := by unfold cutPre; rw [if_pos h]
    rw [e]
    clear e
    go_enter Yba.func9, Yba.ntmps9
    go_wp2_with (go_at_call 11; refine (has_any s p _ hs hp).mono ?_; rintro e w' ⟨rfl, rfl⟩)
    go_ret2
    exact ⟨rfl, rfl⟩
  | false =>
    have e : cutPre s p = s := by unfold cutPre; rw [if_neg (by simp [h])]
    rw [e]
    clear e
    go_enter Yba.func9, Yba.ntmps9
    go_wp2_with (go_at_call 11; refine (has_any s p _ hs hp).mono ?_; rintro e w' ⟨rfl, rfl⟩)
    go_ret2
    exact ⟨rfl, rfl⟩

theorem trim10 (s p : ByteArray) (w : World) (hs : s.size ≤ 16777216) (hp : p.size ≤ 16777216) :
    Calls Yba.prog 10 #[.string s, .string p] w fun e w' => e = .returned (.string (cutPre s p)) ∧ w' = w := by
  cases h : hasPre s p with
  | true =>
    have hl := hasPre_size h
    have e : cutPre s p = s.extract p.size s.size := by unfold cutPre; rw [if_pos h]
    rw [e]
    clear e
    go_enter Yba.func10, Yba.ntmps10
    go_wp2_with (go_at_call 11; refine (has_any s p _ hs hp).mono ?_; rintro e w' ⟨rfl, rfl⟩)
    go_ret
    exact ⟨rfl, rfl⟩
  | false =>
    have e : cutPre s p = s := by unfold cutPre; rw [if_neg (by simp [h])]
    rw [e]
    clear e
    go_enter Yba.func10, Yba.ntmps10
    go_wp2_with (go_at_call 11; refine (has_any s p _ hs hp).mono ?_; rintro e w' ⟨rfl, rfl⟩)
    go_ret
    exact ⟨rfl, rfl⟩

theorem cut7 (s p : ByteArray) (w : World) (hs : s.size ≤ 16777216) (hp : p.size ≤ 16777216) :
    Calls Yba.prog 7 #[.string s, .string p] w fun e w' => e = .returned (.tuple #[.string (cutPre s p), .bool (hasPre s p)]) ∧ w' = w := by
  go_enter Yba.func7, Yba.ntmps7
  go_wp2_with (go_at_call 9; refine (cut9 s p _ hs hp).mono ?_; rintro e w' ⟨rfl, rfl⟩)
  go_ret2
  exact ⟨rfl, rfl⟩

theorem trim8 (s p : ByteArray) (w : World) (hs : s.size ≤ 16777216) (hp : p.size ≤ 16777216) :
    Calls Yba.prog 8 #[.string s, .string p] w fun e w' => e = .returned (.string (cutPre s p)) ∧ w' = w := by
  go_enter Yba.func8, Yba.ntmps8
  go_wp2_with (go_at_call 10; refine (trim10 s p _ hs hp).mono ?_; rintro e w' ⟨rfl, rfl⟩)
  go_ret
  exact ⟨rfl, rfl⟩
end Go.Proofs.Ybulkdqfs
