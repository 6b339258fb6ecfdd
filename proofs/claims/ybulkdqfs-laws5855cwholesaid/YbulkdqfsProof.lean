/-
  'config.LawS5855CWhole': FROM THE WALK TO THE STATEMENT.
-/
import Derived.Test.YbulkdqfsWalk
import Derived.ProofKit
import Derived.ShutString
import Derived.ChangeOld
import Derived.Below
import Derived.SizedLaws
import Derived.SliceStrings
import Derived.OpenShut
namespace Go.Proofs.Ybulkdqfs
open Go.ChangeShapes Go.WideShapes Go.ChangeAt Go.RowKit
open Go.ChangeMaps (open_string shut_string)
set_option linter.unusedVariables false

theorem own : ownKnob Yba.prog.godebug = none := by kernel_rfl
theorem laidOut : laidOutB Yba.prog = true := by kernel_rfl

/-- More than 2^20 bytes and scopes in all: the law answers at once. -/
theorem walk_big (ks is : Int) (key rest src reg cid : ByteArray) (sa : Option Addr) (len cap : Nat) (w : World)
    (h1 : key.size ≤ 140737488355328) (h2 : rest.size ≤ 140737488355328) (h3 : src.size ≤ 140737488355328) (h4 : reg.size ≤ 140737488355328) (h5 : cid.size ≤ 140737488355328) (h6 : len ≤ 140737488355328)
    (hsum : ¬ key.size + rest.size + src.size + reg.size + cid.size + len ≤ 1048576) :
    Calls Yba.prog 3 #[.int .u8 ks, .string key, .int .u8 is, .string rest, .string src, .string reg, .string cid, .slice sa len cap] w fun e w' => e = .returned (.bool true) ∧ Below w.heap.size w w' := by
  go_enter Yba.func3, Yba.ntmps3
  go_wp2
  go_ret
  exact ⟨rfl, Below.refl _ _⟩

theorem size_le {s : ByteArray} (h : s.data.toList.length ≤ reachBytes) : s.size ≤ 140737488355328 := by
  have e : s.data.toList.length = s.size := Array.length_toList
  have := reachBytes_lt
  omega

theorem u8_bounds {n : Int} (h : (Lit.int .u8 n).wf = true) : 0 ≤ n ∧ n ≤ 255 := by
  simp [Lit.wf, IntKind.min, IntKind.max, IntKind.signed, IntKind.bits] at h
  omega

set_option maxRecDepth 100000 in
theorem lifted (os : Os) (started : os.Started) (H : Type) (enc : TypeId × Value → H) :
    ReturnsInHanded {} Yba.checked os 3 .any (Rows.lawS5855CWholeSpec.pre6 enc Yba.prog Yba.f3 Rows.lawS5855CWholeRow.domain false) (Rows.lawS5855CWholeSpec.post enc Yba.prog Yba.f3 false true false false) := by
  refine returnsInHanded_of_change_sized (C := Yba.checked) own started (by kernel_rfl) Yba.func3
    (ChangeSpec.witness6 (enc := enc) (C := Yba.checked) false ⟨#[], #[.int .u8 0, .string ByteArray.empty, .int .u8 0, .string ByteArray.empty, .string ByteArray.empty, .string ByteArray.empty, .string ByteArray.empty, .slice none 0 0], []⟩ 8 (by kernel_rfl) (by kernel_rfl) (by kernel_rfl) (by kernel_rfl)) ?_
  intro W base args ds gs before hval0 hW hcnd hsz _
  have hval : ∀ (j : Nat) t v, Yba.f3.params[j]? = some t → args[j]? = some v → Value.okWide Yba.prog W .any base t v := hval0
  have hW' := hW
  obtain ⟨p, q, hA0, hV, rfl, hfz, hnd⟩ := hW
  have hA : DataW.TrodAll enc Yba.prog W 0 (fun _ => true) true Yba.f3.params.toList args.toList ds p := hA0
  rw [Yba.params3] at hA hval
  obtain ⟨v0, vs0, d0, ds0, p0, q0, hargs, rfl, rfl, h0, r0⟩ := trodAll_cons hA
  obtain ⟨v1, vs1, d1, ds1, p1, q1, rfl, rfl, rfl, h1, r1⟩ := trodAll_cons r0
  obtain ⟨v2, vs2, d2, ds2, p2, q2, rfl, rfl, rfl, h2, r2⟩ := trodAll_cons r1
  obtain ⟨v3, vs3, d3, ds3, p3, q3, rfl, rfl, rfl, h3, r3⟩ := trodAll_cons r2
  obtain ⟨v4, vs4, d4, ds4, p4, q4, rfl, rfl, rfl, h4, r4⟩ := trodAll_cons r3
  obtain ⟨v5, vs5, d5, ds5, p5, q5, rfl, rfl, rfl, h5, r5⟩ := trodAll_cons r4
  obtain ⟨v6, vs6, d6, ds6, p6, q6, rfl, rfl, rfl, h6, r6⟩ := trodAll_cons r5
  obtain ⟨v7, vs7, d7, ds7, p7, q7, rfl, rfl, rfl, h7, r7⟩ := trodAll_cons r6
  obtain ⟨rfl, rfl, rfl⟩ := trodAll_nil r7
  obtain rfl : args = #[v0, v1, v2, v3, v4, v5, v6, v7] := by cases args; simp_all
  obtain ⟨rfl, rfl⟩ := trodVars_none hV
  obtain ⟨ks, rfl, rfl, rfl, w0⟩ := open_int Yba.underlying5 (hval 0 5 v0 rfl rfl) h0
  obtain ⟨key, rfl, rfl, rfl, w1⟩ := open_string Yba.underlying9 (hval 1 9 v1 rfl rfl) h1
  obtain ⟨is, rfl, rfl, rfl, w2⟩ := open_int Yba.underlying5 (hval 2 5 v2 rfl rfl) h2
  obtain ⟨rest, rfl, rfl, rfl, w3⟩ := open_string Yba.underlying9 (hval 3 9 v3 rfl rfl) h3
  obtain ⟨src, rfl, rfl, rfl, w4⟩ := open_string Yba.underlying9 (hval 4 9 v4 rfl rfl) h4
  obtain ⟨reg, rfl, rfl, rfl, w5⟩ := open_string Yba.underlying9 (hval 5 9 v5 rfl rfl) h5
  obtain ⟨cid, rfl, rfl, rfl, w6⟩ := open_string Yba.underlying9 (hval 6 9 v6 rfl rfl) h6
  obtain ⟨sa, len, cap, rfl⟩ := okWide_slice Yba.underlying22 (hval 7 22 v7 rfl rfl)
  have k7 := h7
  have lt7 : ∀ x ∈ p7, x.block < W.heap.size := by obtain ⟨m, hm⟩ := k7; exact DataW.trod_lt m _ _ _ hm
  have z1 := size_le (sized_string hsz (j := 1) (t := 9) rfl rfl)
  have z3 := size_le (sized_string hsz (j := 3) (t := 9) rfl rfl)
  have z4 := size_le (sized_string hsz (j := 4) (t := 9) rfl rfl)
  have z5 := size_le (sized_string hsz (j := 5) (t := 9) rfl rfl)
  have z6 := size_le (sized_string hsz (j := 6) (t := 9) rfl rfl)
  obtain ⟨S, hlen, hnil, hsc⟩ : ∃ S : Nat → ByteArray, len ≤ 140737488355328 ∧ (sa = none → len = 0) ∧ ∀ a, sa = some a → ∀ j, j < len → W.cell? (a.add j) = some (.string (S j)) := by
    obtain ⟨fuel, hf⟩ := h7
    rcases open_strings Yba.underlying22 Yba.underlying9 (by kernel_rfl) hf with ⟨hcs, hx⟩ | ⟨a, l, c, ss, hcs, _, hl, hm, hz, hx, hcell, hws⟩
    · simp [Value.cells] at hcs
      obtain ⟨rfl, rfl, rfl⟩ := hcs
      exact ⟨fun _ => ByteArray.empty, by omega, fun _ => rfl, fun a ha => by cases ha⟩
    · simp [Value.cells] at hcs
      obtain ⟨rfl, rfl, rfl⟩ := hcs
      simp only [if_true] at hz
      simp only [Prod.mk.injEq] at hx
      obtain ⟨hd, _⟩ := hx
      have hb := sized_slice (P := Yba.prog) hsz (j := 7) (t := 22) (e := 9) rfl (by rw [hd]; rfl) Yba.underlying22
      have hb9 : Yba.prog.bytesOf 9 = 16 := by kernel_rfl
      rw [hb9] at hb
      have := reachBytes_lt
      simp [strs] at hb
      refine ⟨fun j => ss.getD j ByteArray.empty, by omega, (fun h => by cases h), fun x hx' j hj => ?_⟩
      cases hx'
      exact hcell j (by omega)
  clear hA0 hval0
  obtain ⟨a0, b0⟩ := u8_bounds w0
  obtain ⟨a2, b2⟩ := u8_bounds w2
  have hwalk : Calls Yba.prog 3 #[.int .u8 ks, .string key, .int .u8 is, .string rest, .string src, .string reg, .string cid, .slice sa len cap] W fun e w' => e = .returned (.bool true) ∧ Below W.heap.size W w' := by
    by_cases hsum : key.size + rest.size + src.size + reg.size + cid.size + len ≤ 1048576
    · exact walk ks is key rest src reg cid sa len cap S W a0 b0 a2 b2 hsum hnil hsc
    · exact walk_big ks is key rest src reg cid sa len cap W z1 z3 z4 z5 z6 hlen hsum
  refine hwalk.mono fun e W' ⟨he, bel⟩ => ?_
  subst he
  exact ⟨_, rfl, _, _, _, [], _, [], hW', trodAll_mk1 (shut_bool Yba.underlying4 _), trodAll_cons_mk (shut_int Yba.underlying5 w0) (trodAll_cons_mk (shut_string Yba.underlying9 w1) (trodAll_cons_mk (shut_int Yba.underlying5 w2) (trodAll_cons_mk (shut_string Yba.underlying9 w3) (trodAll_cons_mk (shut_string Yba.underlying9 w4) (trodAll_cons_mk (shut_string Yba.underlying9 w5) (trodAll_cons_mk (shut_string Yba.underlying9 w6) (trodAll_cons_mk (Below.trod laidOut (by kernel_rfl) (of_decide_eq_true (by kernel_rfl)) k7 bel lt7) trodAll_mk0))))))), rfl, bel.frame _, fun h => by cases h⟩

/-- THE STATEMENT. -/
theorem proved : Rows.LawS5855CWholeSaid :=
  OpenClaim.holds_of_wide 3 Yba.f3 rfl rfl rfl rfl rfl rfl rfl ⟨rfl, rfl, rfl, rfl, rfl⟩ rfl rfl rfl rfl rfl (by kernel_rfl) Yba.func3 (by kernel_rfl)
    (of_decide_eq_true (by kernel_rfl)) (by unfold Func.isWrapper; first | (rw [if_pos (by decide +kernel)]; kernel_rfl) | (rw [if_neg (by decide +kernel)]; exact ⟨rfl, rfl⟩))
    (fun os started H enc _ => lifted os started H enc)
end Go.Proofs.Ybulkdqfs
