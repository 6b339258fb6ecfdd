/-
  THE LAW's OWN CUT, 'zzs5855ccut' (a loop over what is to be cut), AND '(Profile).CognitoLogin'.
-/
import Derived.Test.YbulkdqfsCalls
namespace Go.Proofs.Ybulkdqfs
open Go.RowKit
set_option linter.unusedVariables false      -- bounds that the walk alone uses

/-- The first k bytes agree. -/
def agree (s p : ByteArray) (k : Nat) : Prop := ∀ j, j < k → s.data[j]? = p.data[j]?

theorem agree_succ {s p : ByteArray} {k : Nat} (h : agree s p k) (h1 : k < s.size) (h2 : k < p.size) (e : s[k] = p[k]) : agree s p (k + 1) := by
  intro j hj
  by_cases hk : j = k
  · subst hk
    have e1 : s.data[j]? = some s[j] := Array.getElem?_eq_getElem h1
    have e2 : p.data[j]? = some p[j] := Array.getElem?_eq_getElem h2
    rw [e1, e2, e]
  · exact h j (by omega)

theorem extract_list (s : ByteArray) (n : Nat) : (s.extract 0 n).toList = s.data.toList.take n := by
  rw [ByteArray.toList_eq, ByteArray.data_extract]
  simp

theorem hasPre_of_agree {s p : ByteArray} (hl : p.size ≤ s.size) (h : agree s p p.size) : hasPre s p = true := by
  unfold hasPre
  rw [beq_iff_eq, extract_list, ByteArray.toList_eq]
  apply List.ext_getElem?
  intro j
  have e2 : p.data.size = p.size := rfl
  by_cases hj : j < p.size
  · rw [List.getElem?_take_of_lt hj]
    have := h j hj
    simpa using this
  · rw [List.getElem?_eq_none (by simp; omega), List.getElem?_eq_none (by simp; omega)]

theorem hasPre_not {s p : ByteArray} {k : Nat} (h1 : k < s.size) (h2 : k < p.size) (e : s[k] ≠ p[k]) : hasPre s p = false := by
  cases h : hasPre s p with
  | false => rfl
  | true =>
    exfalso
    unfold hasPre at h
    rw [beq_iff_eq, extract_list, ByteArray.toList_eq] at h
    have := congrArg (·[k]?) h
    simp only [List.getElem?_take_of_lt h2] at this
    have e1 : s.data.toList[k]? = some s[k] := by simp; exact Array.getElem?_eq_getElem h1
    have e2 : p.data.toList[k]? = some p[k] := by simp; exact Array.getElem?_eq_getElem h2
    rw [e1, e2] at this
    exact e (Option.some.inj this)

theorem bytes_ne {a b : UInt8} (h : ((a.toNat : Int) != (b.toNat : Int)) = true) : a ≠ b := by
  rintro rfl
  simp at h
theorem bytes_eq {a b : UInt8} (h : ((a.toNat : Int) != (b.toNat : Int)) = false) : a = b := by
  apply UInt8.toNat.inj
  simp at h
  omega

set_option maxHeartbeats 1000000 in
theorem cut6 (s p : ByteArray) (w : World) (hs : s.size ≤ 16777216) (hp : p.size ≤ 16777216) :
    Calls Yba.prog 6 #[.string s, .string p] w fun e w' => e = .returned (.tuple #[.string (cutPre s p), .bool (hasPre s p)]) ∧ ∃ n, w' = w.drewN n := by
  by_cases hl : p.size ≤ s.size
  · go_enter Yba.func6, Yba.ntmps6
    go_wp2
    go_loopw [6] (fun i wr => ∃ k : Nat, k ≤ p.size ∧ i = .int .i64 k ∧ Hid (agree s p k) ∧ ∃ n, wr = w.drewN n) (fun i _ => p.size - (intOf i).toNat)
    case atStart => exact ⟨0, Nat.zero_le _, rfl, (fun j hj => by omega), 0, rfl⟩
    case round =>
      obtain ⟨k, hk, rfl, ha, n, rfl⟩ := hrel
      by_cases hlt : k < p.size
      · have hls : k < s.size := by omega
        have i1 : (k : Int) < (p.size : Int) := by omega
        have i2 : (k : Int) < (s.size : Int) := by omega
        go_wp2
        go_quiet (fail)
        go_wp2
        · have hne := bytes_ne (by assumption)
          have e1 := hasPre_not hls hlt hne
          have e2 : cutPre s p = s := by unfold cutPre; rw [if_neg (by simp [e1])]
          rw [e1, e2]
          go_ret2
          exact ⟨rfl, n + nq, World.drewN_drewN ..⟩
        · have heq := bytes_eq (by assumption)
          go_roundw
          case rel => exact ⟨k + 1, by omega, by go_num, agree_succ ha.out hls hlt heq, n + nq, rfl⟩
          case measure => simp [intOf]; omega
      · go_wp2
        obtain rfl : k = p.size := by omega
        have e1 := hasPre_of_agree hl ha.out
        have e2 : cutPre s p = s.extract p.size s.size := by unfold cutPre; rw [if_pos e1]
        rw [e1, e2]
        go_ret2
        exact ⟨rfl, n, rfl⟩
  · have e1 := hasPre_short hl
    have e2 : cutPre s p = s := by unfold cutPre; rw [if_neg (by simp [e1])]
    rw [e1, e2]
    clear e1 e2
    go_enter Yba.func6, Yba.ntmps6
    go_wp2
    go_ret2
    exact ⟨rfl, 0, rfl⟩

/-- "https" and "http", each with colon and two slashes. -/
def httpsB : ByteArray := ⟨#[104, 116, 116, 112, 115, 58, 47, 47]⟩
def httpB : ByteArray := ⟨#[104, 116, 116, 112, 58, 47, 47]⟩

/-- What CognitoLogin gives. -/
def login (lk iss : ByteArray) : ByteArray := if lk.toList.isEmpty then (if hasPre iss httpsB then cutPre iss httpsB else cutPre iss httpB) else lk

set_option maxHeartbeats 1000000 in
theorem login5 (c0 c1 c6 lk iss : ByteArray) (sc : Value) (w : World) (hs : iss.size ≤ 16777216) :
    Calls Yba.prog 5 #[.agg #[.string c0, .string c1, .pointer none, .slice none 0 0, .pointer none, .string iss, .string c6, .pointer none, sc, .string ⟨#[99, 111, 103, 110, 105, 116, 111]⟩, .string ⟨#[]⟩, .string ⟨#[]⟩, .string ⟨#[]⟩, .pointer none, .string ⟨#[]⟩, .string ⟨#[]⟩, .string lk, .pointer none, .pointer none]] w
      fun e w' => e = .returned (.string (login lk iss)) ∧ Below w.heap.size w w' := by
  cases hk : lk.toList.isEmpty with
  | false =>
    have e : login lk iss = lk := by unfold login; rw [if_neg (by simp [hk])]
    rw [e]
    clear e
    go_enter Yba.func5, Yba.ntmps5
    go_wp2
    go_ret
    exact ⟨rfl, (Below.refl _ _).alloc (Nat.le_refl _) _⟩
  | true =>
    cases h1 : hasPre iss httpsB with
    | true =>
      have e : login lk iss = cutPre iss httpsB := by unfold login; rw [if_pos hk, if_pos h1]
      rw [e]
      clear e
      go_enter Yba.func5, Yba.ntmps5
      go_wp2_with (go_at_call 7; refine (cut7 iss httpsB _ hs (by decide)).mono ?_; rintro e w' ⟨rfl, rfl⟩)
      go_ret
      exact ⟨rfl, (Below.refl _ _).alloc (Nat.le_refl _) _⟩
    | false =>
      have e : login lk iss = cutPre iss httpB := by unfold login; rw [if_pos hk, if_neg (by simp [h1])]
      rw [e]
      clear e
      go_enter Yba.func5, Yba.ntmps5
      go_wp2_with (first | (go_at_call 7; refine (cut7 iss httpsB _ hs (by decide)).mono ?_; rintro e w' ⟨rfl, rfl⟩) | (go_at_call 8; refine (trim8 iss httpB _ hs (by decide)).mono ?_; rintro e w' ⟨rfl, rfl⟩))
      go_ret
      exact ⟨rfl, (Below.refl _ _).alloc (Nat.le_refl _) _⟩

/-- The cells of the profile that the law makes. -/
def prof (src reg iss cid lk : ByteArray) (sa : Option Addr) (len cap : Nat) : Array Value := #[.string src, .string reg, .pointer none, .slice none 0 0, .pointer none, .string iss, .string cid, .pointer none, .slice sa len cap, .string ⟨#[99, 111, 103, 110, 105, 116, 111]⟩, .string ⟨#[]⟩, .string ⟨#[]⟩, .string ⟨#[]⟩, .pointer none, .string ⟨#[]⟩, .string ⟨#[]⟩, .string lk, .pointer none, .pointer none]

theorem login_prof (src reg iss cid lk : ByteArray) (sa : Option Addr) (len cap : Nat) (w : World) (hs : iss.size ≤ 16777216) :
    Calls Yba.prog 5 #[.agg (prof src reg iss cid lk sa len cap)] w fun e w' => e = .returned (.string (login lk iss)) ∧ Below w.heap.size w w' :=
  login5 src reg cid lk iss (.slice sa len cap) w hs
end Go.Proofs.Ybulkdqfs
