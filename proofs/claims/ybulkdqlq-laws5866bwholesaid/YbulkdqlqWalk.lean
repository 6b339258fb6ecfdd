/-
  THE WALK OF 'pheadline.LawS5866BWhole': it returns true, whatever the two strings.
-/
import Derived.Test.YbulkdqlqRows
import Derived.WalkKit
import Derived.WalkSpells
import Derived.BigQuiet
import Derived.Deep.QuietTactic
import Derived.WalkSmall
namespace Go.Proofs.Ybulkdqlq
open Go.RowKit
set_option linter.unusedVariables false      -- bounds that the walk alone uses

theorem rawOr_raw (raw text : ByteArray) (w : World) (h : raw.toList.isEmpty = false) :
    Calls Yba.prog 4 #[.string raw, .string text] w fun e w' => e = .returned (.string raw) ∧ w' = w := by
  go_enter Yba.func4, Yba.ntmps4
  go_wp2
  go_ret
  exact ⟨rfl, rfl⟩

theorem rawOr_text (raw text g : ByteArray) (w : World) (h : raw.toList.isEmpty = true) (hs : text.size ≤ 1048576) (hg : g = text ++ ⟨#[13, 10]⟩) :
    Calls Yba.prog 4 #[.string raw, .string text] w fun e w' => e = .returned (.string g) ∧ w' = w := by
  subst hg
  go_enter Yba.func4, Yba.ntmps4
  go_wp2
  go_ret
  exact ⟨rfl, rfl⟩

theorem walk_long1 (raw text : ByteArray) (w : World) (h : 1048576 < raw.size) :
    Calls Yba.prog 3 #[.string raw, .string text] w fun e w' => e = .returned (.bool true) ∧ Below w.heap.size w w' := by
  go_enter Yba.func3, Yba.ntmps3
  go_wp2
  go_ret
  exact ⟨rfl, Below.refl _ _⟩

theorem walk_long2 (raw text : ByteArray) (w : World) (h : raw.size ≤ 1048576) (h2 : 1048576 < text.size) :
    Calls Yba.prog 3 #[.string raw, .string text] w fun e w' => e = .returned (.bool true) ∧ Below w.heap.size w w' := by
  have hd : decide ((1048576 : Int) < (raw.size : Int)) = false := by simp; omega
  go_enter Yba.func3, Yba.ntmps3
  go_wp2
  go_ret
  exact ⟨rfl, Below.refl _ _⟩

theorem walk_raw (raw text : ByteArray) (w : World) (h : raw.size ≤ 1048576) (h2 : text.size ≤ 1048576) (hp : 0 < raw.size) (he : raw.toList.isEmpty = false) :
    Calls Yba.prog 3 #[.string raw, .string text] w fun e w' => e = .returned (.bool true) ∧ Below w.heap.size w w' := by
  go_enter Yba.func3, Yba.ntmps3
  go_wp2_with (go_at_call 4; refine (rawOr_raw raw text _ he).mono ?_; rintro e w' ⟨rfl, rfl⟩)
  go_ret
  exact ⟨rfl, Below.refl _ _⟩

theorem bytes_eq {a b : UInt8} (h : a = b) (h2 : ((a.toNat : Int) != (b.toNat : Int)) = true) : False := by
  subst h
  simp at h2

theorem walk_text (raw text g : ByteArray) (w : World) (h2 : text.size ≤ 1048576) (hp : raw.size = 0) (he : raw.toList.isEmpty = true) (hg : g = text ++ ⟨#[13, 10]⟩)
    (hsz : g.size = text.size + 2) (hbytes : Hid (∀ k, (hk : k < text.size) → (hk2 : k < g.size) → g[k] = text[k])) (h13 : ∀ hk : text.size < g.size, g[text.size].toNat = 13) (h10 : ∀ hk : text.size + 1 < g.size, g[text.size + 1].toNat = 10) :
    Calls Yba.prog 3 #[.string raw, .string text] w fun e w' => e = .returned (.bool true) ∧ Below w.heap.size w w' := by
  have hC := fun wx => rawOr_text raw text g wx he h2 hg
  clear hg he
  have b1 : text.size < g.size := by omega
  have b2 : text.size + 1 < g.size := by omega
  have h13 := h13 b1
  have h10 := h10 b2
  go_enter Yba.func3, Yba.ntmps3
  go_wp2_with (go_at_call 4; refine (hC _).mono ?_; rintro e w' ⟨rfl, rfl⟩)
  go_loopw [6] (fun i wr => ∃ k : Nat, k ≤ text.size ∧ i = .int .i64 k ∧ ∃ n, wr = w'.drewN n) (fun i _ => text.size - (intOf i).toNat)
  case atStart => exact ⟨0, Nat.zero_le _, rfl, 0, rfl⟩
  case round =>
    obtain ⟨k, hk, rfl, n, rfl⟩ := hrel
    by_cases hlt : k < text.size
    · have hlg : k < g.size := by omega
      have i1 : (k : Int) < (text.size : Int) := by omega
      have i2 : (k : Int) < (text.size : Int) + 2 := by omega
      go_wp2
      go_quiet (fail)
      go_wp2
      · exact (bytes_eq (hbytes.out k hlt hlg) (by assumption)).elim
      · go_roundw
        case rel => exact ⟨k + 1, by omega, by go_num, _, rfl⟩
        case measure => simp [intOf]; omega
    · have i3 : (text.size : Int) < (text.size : Int) + 2 := by omega
      have i4 : (text.size : Int) + 1 < (text.size : Int) + 2 := by omega
      go_wp2
      go_ret
      exact ⟨rfl, below_drewN (Below.refl _ _) _⟩

/-- The bytes of a text with CR and LF behind it. -/
theorem joined_size (text : ByteArray) : (text ++ ⟨#[13, 10]⟩ : ByteArray).size = text.size + 2 := by
  rw [ByteArray.size_append]
  rfl

/-- THE LAW, at every two strings. -/
theorem walk (raw text : ByteArray) (w : World) : Calls Yba.prog 3 #[.string raw, .string text] w fun e w' => e = .returned (.bool true) ∧ Below w.heap.size w w' := by
  by_cases h1 : 1048576 < raw.size
  · exact walk_long1 raw text w h1
  by_cases h2 : 1048576 < text.size
  · exact walk_long2 raw text w (by omega) h2
  have hl : raw.toList.length = raw.size := by rw [ByteArray.toList_eq]; exact Array.length_toList
  by_cases hp : 0 < raw.size
  · exact walk_raw raw text w (by omega) (by omega) hp (by
      cases e : raw.toList with
      | nil => rw [e] at hl; simp at hl; omega
      | cons a l => rfl)
  · refine walk_text raw text _ w (by omega) (by omega) (by
      cases e : raw.toList with
      | nil => rfl
      | cons a l => rw [e] at hl; simp at hl; omega) rfl (joined_size text) ?_ ?_ ?_
    · intro k hk hk2
      exact ByteArray.getElem_append_left hk
    · intro hk
      rw [ByteArray.getElem_append_right (Nat.le_refl _)]
      simp
      rfl
    · intro hk
      rw [ByteArray.getElem_append_right (by omega)]
      simp
      rfl
end Go.Proofs.Ybulkdqlq
