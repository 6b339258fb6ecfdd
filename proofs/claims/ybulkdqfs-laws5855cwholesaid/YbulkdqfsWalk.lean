/-
  THE WALK OF 'config.LawS5855CWhole': it returns true, whatever the input.
-/
import Derived.Test.YbulkdqfsLaws
import Derived.Deep.Cut
import Derived.Deep.CutRange
import Derived.WalkSmall
namespace Go.Proofs.Ybulkdqfs
open Go.RowKit
set_option linter.unusedVariables false      -- bounds that the walk alone uses

set_option maxHeartbeats 2000000 in
theorem walk (ks is : Int) (key rest src reg cid : ByteArray) (sa : Option Addr) (len cap : Nat) (S : Nat → ByteArray) (w : World)
    (k0 : 0 ≤ ks) (k1 : ks ≤ 255) (i0 : 0 ≤ is) (i1 : is ≤ 255)
    (hsum : key.size + rest.size + src.size + reg.size + cid.size + len ≤ 1048576)
    (hnil : sa = none → len = 0)
    (hsc : ∀ a, sa = some a → ∀ j, j < len → w.cell? (a.add j) = some (.string (S j))) :
    Calls Yba.prog 3 #[.int .u8 ks, .string key, .int .u8 is, .string rest, .string src, .string reg, .string cid, .slice sa len cap] w fun e w' => e = .returned (.bool true) ∧ Below w.heap.size w w' := by
  have hne := neq_nil
  have heq := eql_nil
  go_enter Yba.func3, Yba.ntmps3
  go_upto_if 48 with fail
  go_cut [17] from 28 to 49 (fun v w' => ∃ lk : ByteArray, v = .string lk ∧ lk.size ≤ 1048576 ∧ w = w')
  case first =>
    go_wp2
    all_goals (go_meet; case rel => exact ⟨_, rfl, by first | omega | decide, rfl⟩)
  case rest =>
    obtain ⟨lk, rfl, hlk, rfl⟩ := hcut
    go_upto_if 55 with (go_at_call 4; refine (pre_any is _ i0 i1).mono ?_; rintro e w' ⟨⟨pre, rfl, hpre⟩, rfl⟩)
    go_cut [7, 19] from 28 to 61 (fun s v w1 => s = .slice sa len cap ∧ Copied w' w1 sa len S v)
    case first =>
      cases hsa : sa with
      | none =>
        obtain rfl := hnil hsa
        go_wp2
        go_meet
        case rel => exact ⟨by rw [hsa], by rw [hsa]; exact copied_nil _ _⟩
      | some a =>
        have hmk := make_strs len (by omega)
        have hcp := fun ty => copy_strs S len cap a ty w' (hsc a hsa)
        clear hsc hnil
        go_wp2
        go_meet
        case rel => exact ⟨by rw [hsa], by rw [hsa]; exact copied_some _ _ _ _⟩
    case rest =>
      have hiss : (pre ++ rest).size ≤ 16777216 := by simp; omega
      obtain ⟨rfl, ba, rfl, hba, hB, hcells⟩ := hcut
      generalize pre ++ rest = iss at hiss ⊢
      go_upto_if 72 with (first | (refine wpList_build_lit rfl 26 _ rfl (prof src reg iss cid lk sa len cap) (by kernel_rfl) ?_) | (refine wpList_store_new rfl rfl 26 _ _ rfl _ (prof src reg iss cid lk sa len cap) rfl rfl (by kernel_rfl) (by kernel_rfl) (by kernel_rfl) ?_) | (refine wpList_load_row rfl 26 _ rfl _ rfl 26 _ (0, 0) _ (heap_alloc_last _ _) Yba.underlying26 rfl (by kernel_rfl) ?_) | (go_at_call 5; refine (login_prof src reg iss cid lk sa len cap _ hiss).mono ?_; rintro e w2 ⟨rfl, hB2⟩))
      obtain ⟨hB3, hp, hold⟩ := behind hB hB2
      have hk : ∀ j, j < len → (∀ a, sa = some a → w2.cell? (a.add j) = some (.string (S j))) ∧ (∀ g, ba = some ⟨g, 0, none⟩ → w2.cell? ⟨g, j, none⟩ = some (.string (S j))) := by
        intro j hj
        refine ⟨fun a ha => ?_, fun g hg => ?_⟩
        · have h0 := hsc a ha j hj
          exact cell_later hB3 h0
        · obtain ⟨g', e, _, hlt, hc⟩ := hcells (by omega)
          rw [hg] at e
          cases e
          rw [hold ⟨g, j, none⟩ hlt]
          exact hc j hj
      have hpos : 0 < len → ∃ g, ba = some ⟨g, 0, none⟩ := fun h => by
        obtain ⟨g, e, _⟩ := hcells h
        exact ⟨g, e⟩
      have hp5 : w2.cell? ⟨wc.heap.size, 5, none⟩ = some (.string iss) := hp 5
      have hp16 : w2.cell? ⟨wc.heap.size, 16, none⟩ = some (.string lk) := hp 16
      clear hold hp hcells hsc hB hB2 hsum hpre
      go_cut [17, 18, 22] from 71 to 88 (fun s17 s18 v w3 => s17 = .string lk ∧ s18 = .string iss ∧ v = .string (login lk iss) ∧ ∃ n, w3 = w2.drewN n)
      case first =>
        clear hk hpos hp5 hp16
        cases hlk0 : lk.toList.isEmpty with
        | false =>
          have e : login lk iss = lk := by unfold login; rw [if_neg (by simp [hlk0])]
          have E : Hid (login lk iss = lk) := e
          clear e
          go_wp2
          go_meet
          case rel => exact ⟨rfl, rfl, by rw [E.out], 0, rfl⟩
        | true =>
          cases h1 : hasPre iss httpsB with
          | true =>
            have e : login lk iss = cutPre iss httpsB := by unfold login; rw [if_pos hlk0, if_pos h1]
            have E : Hid (login lk iss = cutPre iss httpsB) := e
            clear e
            go_wp2_with (go_at_call 6; refine (cut6 iss httpsB _ hiss (by decide)).mono ?_; rintro e w' ⟨rfl, n, rfl⟩)
            go_meet
            case rel => exact ⟨rfl, rfl, by rw [E.out], _, rfl⟩
          | false =>
            have e : login lk iss = cutPre iss httpB := by unfold login; rw [if_pos hlk0, if_neg (by simp [h1])]
            have E : Hid (login lk iss = cutPre iss httpB) := e
            clear e
            cases h2 : hasPre iss httpB with
            | true =>
              go_upto_if 79 with (go_at_call 6; refine (cut6 iss httpsB _ hiss (by decide)).mono ?_; rintro e w' ⟨rfl, n, rfl⟩)
              go_wp2_with (go_at_call 6; refine (cut6 iss httpB _ hiss (by decide)).mono ?_; rintro e w' ⟨rfl, n', rfl⟩)
              go_meet
              case rel => exact ⟨rfl, rfl, by rw [E.out], _, rfl⟩
            | false =>
              have e2 : cutPre iss httpB = iss := by unfold cutPre; rw [if_neg (by simp [h2])]
              have E2 : Hid (cutPre iss httpB = iss) := e2
              clear e2
              go_upto_if 79 with (go_at_call 6; refine (cut6 iss httpsB _ hiss (by decide)).mono ?_; rintro e w' ⟨rfl, n, rfl⟩)
              go_wp2_with (go_at_call 6; refine (cut6 iss httpB _ hiss (by decide)).mono ?_; rintro e w' ⟨rfl, n', rfl⟩)
              go_meet
              case rel => exact ⟨rfl, rfl, by rw [E.out, E2.out], _, rfl⟩
      case rest =>
        obtain ⟨rfl, rfl, rfl, n, rfl⟩ := hcut
        have hl63 : len ≤ 1048576 := by omega
        go_wp2
        go_loopw [27] (fun i wr => ∃ k : Nat, k ≤ len ∧ i = .int .i64 k ∧ ∃ m, wr = w2.drewN m) (fun i _ => len - (intOf i).toNat)
        case atStart => exact ⟨0, Nat.zero_le _, rfl, n, rfl⟩
        case round =>
          obtain ⟨k, hkl, rfl, m, rfl⟩ := hrel
          by_cases hlt : k < len
          · obtain ⟨g, rfl⟩ := hpos (by omega)
            cases sa with
            | none => exact absurd (hnil rfl) (by omega)
            | some a =>
              obtain ⟨c1, c2⟩ := hk k hlt
              have c1 := c1 a rfl
              have c2 := c2 g rfl
              have c0 := (hk 0 (by omega)).1 a rfl
              obtain ⟨b, off, spot⟩ := a
              have hspot : spot = none := by simpa [Addr.add] using World.cell?_spot c0
              subst hspot
              clear c0
              rw [Go.WideShapes.add_plain] at c1
              have i1 : (k : Int) < (len : Int) := by omega
              clear hk hpos hnil
              go_wp2
              go_quiet (fail)
              go_wp2
              go_roundw
              case rel => exact ⟨k + 1, by omega, by go_num, _, rfl⟩
              case measure => simp [intOf]; omega
          · clear hk hpos hnil
            go_wp2
            go_ret
            exact ⟨rfl, below_drewN hB3 _⟩
end Go.Proofs.Ybulkdqfs
