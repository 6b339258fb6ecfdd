/-
  LAWS FOR THE WALK: a struct built and stored whole; make and copy of a slice of strings; what is known behind a call that makes memory.
-/
import Derived.Test.YbulkdqfsCut
import Derived.Deep.WholeRow
import Derived.Laws.CopyRow
import Derived.Laws.MakeOwn
namespace Go.Proofs.Ybulkdqfs
open Go.RowKit

theorem neq_nil (a : Option Addr) (n c : Nat) (w : World) : (binOp .neq 22 (.slice a n c) (.slice none 0 0)).run Yba.prog w = .ok (.bool (!a.isNone)) w :=
  run_neq_slice_nil_any w 22 9 a n c 0 0 Yba.underlying22
theorem eql_nil (a : Option Addr) (n c : Nat) (w : World) : (binOp .eql 22 (.slice a n c) (.slice none 0 0)).run Yba.prog w = .ok (.bool a.isNone) w :=
  Lib.run_eql_slice_nil w 22 9 a n c 0 0 Yba.underlying22

/-- A struct built of parts, its cells as they come out, written out by the prover. -/
theorem wpList_build_lit {P : Program} {ops : Array Oper} {rest : List Oper} {o : Oper} {a : Act} {w : World} {Q : Exit → Act → World → Prop} (hg : o.guard = none) (t : TypeId) (parts : Array (Nat × Operand)) (ho : o.op = .build t parts) (cells : Array Value)
    (hb : P.built t (parts.map fun (i, x) => (i, a.eval x)).toList = some cells)
    (h : wpList P ops Q rest (a.put o.dst (.agg cells)) w) : wpList P ops Q (o :: rest) a w := by
  refine wpList_build hg t parts ho (by rw [hb]; rfl) ?_
  rw [hb]
  exact h

/-- A struct stored whole into the block that was made last. -/
theorem wpList_store_new {P : Program} {ops : Array Oper} {rest : List Oper} {o : Oper} {a : Act} {w : World} {Q : Exit → Act → World → Prop} (hgd : o.guard = none) (hdst : o.dst = none) (ty : TypeId) (x y : Operand) (ho : o.op = .store ty x y) (old cells : Array Value)
    (hx : a.eval x = .pointer (some ⟨w.heap.size, 0, none⟩)) (hy : a.eval y = .agg cells) (hi : (P.info? ty).map (·.size) = some cells.size) (hold : old.size = cells.size) (h1 : cells.all (·.oneCell') = true)
    (h : wpList P ops Q rest a (w.alloc (.cells cells ty))) : wpList P ops Q (o :: rest) a (w.alloc (.cells old ty)) := by
  refine wpList_store_row hgd ty x y ho w.heap.size cells hx hy ty old (heap_alloc_last w _) hi hold h1 ?_
  rw [World.setRow_alloc_new, hdst]
  exact h

theorem info9 : (Yba.prog.info? 9).map (fun i => (i.zero, i.size, i.bytes)) = some (some (.string ⟨#[]⟩), 1, 16) := by kernel_rfl

/-- 'make([]string, n)'. -/
theorem make_strs (n : Nat) (hn : n ≤ 1048576) (w : World) : (Instr.makeSlice 22 (.int .i64 (n : Int)) (.int .i64 (n : Int))).run Yba.prog w =
    .ok (.slice (some ⟨w.heap.size, 0, none⟩) n n) (w.alloc (.cells (madeCells #[.string ⟨#[]⟩] n) 9)) := by
  obtain ⟨i, hi, hz⟩ := Option.map_eq_some_iff.1 info9
  simp only [Prod.mk.injEq] at hz
  obtain ⟨hz0, hz1, hz2⟩ := hz
  have := run_make (P := Yba.prog) w 22 9 i _ Yba.underlying22 hi hz0 .i64 .i64 (n : Int) (n : Int) (by omega) (by omega) (by rw [hz2]; omega) (by omega)
  rw [this, hz1]
  simp [Value.cells]

/-- The scopes' strings as cells. -/
def scells (S : Nat → ByteArray) (n : Nat) : List Value := (List.range n).map fun j => .string (S j)
theorem scells_length (S : Nat → ByteArray) (n : Nat) : (scells S n).length = n := by simp [scells]
theorem scells_get {S : Nat → ByteArray} {n j : Nat} (h : j < n) : (scells S n)[j]? = some (.string (S j)) := by
  simp [scells, h]

/-- 'copy(before, scopes)'. -/
theorem copy_strs (S : Nat → ByteArray) (n cap : Nat) (a : Addr) (ty : TypeId) (w : World) (hc : ∀ j, j < n → w.cell? (a.add j) = some (.string (S j))) :
    (Builtin.copy_ #[22, 22] ty #[.slice (some ⟨w.heap.size, 0, none⟩) n n, .slice (some a) n cap]).run Yba.prog (w.alloc (.cells (madeCells #[.string ⟨#[]⟩] n) 9)) =
      .ok (goInt n) (w.alloc (.cells (scells S n).toArray 9)) := by
  have hs : (Yba.prog.info? 9).map (·.size) = some 1 := by kernel_rfl
  have hlen := scells_length S n
  have := run_copy_row Yba.prog (w.alloc (.cells (madeCells #[.string ⟨#[]⟩] n) 9)) 22 22 ty 9 w.heap.size 0 n n a n cap (madeCells #[.string ⟨#[]⟩] n) 9 (scells S n) Yba.underlying22 hs (heap_alloc_last w _)
    (by rw [hlen]; exact (Nat.min_self n).symm)
    (fun j v hv => by
      have hj : j < n := by
        have := (List.getElem?_eq_some_iff.1 hv).1
        omega
      rw [scells_get hj] at hv
      cases hv
      have h0 := hc j hj
      rw [← h0]
      exact cell_later ((Below.refl _ w).alloc (Nat.le_refl _) _) h0 |>.trans h0.symm)
    (by rw [hlen, size_madeCells]; omega)
    (fun v hv => by
      simp only [scells, List.mem_map] at hv
      obtain ⟨j, _, rfl⟩ := hv
      rfl)
  rw [this, World.setRow_alloc_new, hlen]
  have e : (madeCells #[.string ⟨#[]⟩] n).toList.drop (0 + n) = [] := by
    apply List.drop_eq_nil_of_le
    rw [Array.length_toList, size_madeCells]
    omega
  rw [e]
  simp

/-- What the first half leaves: the copy of the scopes. -/
def Copied (w wc : World) (sa : Option Addr) (len : Nat) (S : Nat → ByteArray) (v : Value) : Prop :=
  ∃ ba : Option Addr, v = .slice ba len len ∧ ba.isNone = sa.isNone ∧ Below w.heap.size w wc ∧
    (0 < len → ∃ g, ba = some ⟨g, 0, none⟩ ∧ w.heap.size ≤ g ∧ g < wc.heap.size ∧ ∀ j, j < len → wc.cell? ⟨g, j, none⟩ = some (.string (S j)))

theorem copied_nil (w : World) (S : Nat → ByteArray) : Copied w w none 0 S (.slice none 0 0) :=
  ⟨none, rfl, rfl, Below.refl _ _, fun h => absurd h (by omega)⟩

theorem copied_some (w : World) (a : Addr) (n : Nat) (S : Nat → ByteArray) : Copied w (w.alloc (.cells (scells S n).toArray 9)) (some a) n S (.slice (some ⟨w.heap.size, 0, none⟩) n n) := by
  refine ⟨_, rfl, rfl, (Below.refl _ _).alloc (Nat.le_refl _) _, fun _ => ⟨w.heap.size, rfl, Nat.le_refl _, by simp, fun j hj => ?_⟩⟩
  rw [cell_of_row _ _ j _ 9 (0, 0) (heap_alloc_last w _)]
  simpa using scells_get hj

/-- What is known of the world behind CognitoLogin. -/
theorem behind {w wc w2 : World} {C : Array Value} (hB : Below w.heap.size w wc) (hB2 : Below (wc.alloc (.cells C 26)).heap.size (wc.alloc (.cells C 26)) w2) :
    Below w.heap.size w w2 ∧ (∀ j, w2.cell? ⟨wc.heap.size, j, none⟩ = C[j]?) ∧ (∀ p : Addr, p.block < wc.heap.size → w2.cell? p = wc.cell? p) := by
  have hs := hB.size
  refine ⟨(hB.alloc hs _).trans (hB2.mono (by simp; omega)), fun j => ?_, fun p hp => ?_⟩
  · rw [hB2.cell (p := ⟨wc.heap.size, j, none⟩) (by simp)]
    exact cell_of_row _ _ j _ 26 (0, 0) (heap_alloc_last wc _)
  · rw [hB2.cell (p := p) (by simp; omega)]
    exact ((Below.refl _ wc).alloc (Nat.le_refl _) _).cell hp
end Go.Proofs.Ybulkdqfs
