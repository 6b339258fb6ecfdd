/-
  fmt.Errorf AT '(Longitude).Validate': it hands back an error that is not nil, in new memory, whatever its text.
-/
import Derived.Test.YbulkdqguFmtZz
import Derived.Stop.FmtLaws
import Derived.Stop.IfaceNil
namespace Go.Proofs.YbulkdqguFmt
open Go.RowKit Go.Extern.Stop Go.Stop Go.Extern

theorem call23 (args : Array Value) (w : World) : (callFunc 23 args).run Ybaf.prog w = ((FmtStop.errorf #[9, 52] #[25] args).run Ybaf.prog w).andThen fun v w' => .ok (.value v) w' :=
  run_callFunc_extern Ybaf.func23 (by kernel_rfl) (by kernel_rfl) (by kernel_rfl) (by kernel_rfl) args w
theorem guardAll (name : String) (w : World) : (FmtStop.guard name).run Ybaf.prog w = .ok () w := by kernel_rfl
theorem printedR (w : World) : (FmtDoors.printed ⟨#[108, 111, 110, 103, 105, 116, 117, 100, 101, 32, 109, 117, 115, 116, 32, 98, 101, 32, 97, 32, 110, 117, 109, 98, 101, 114, 32, 111, 102, 32, 100, 101, 103, 114, 101, 101, 115, 32, 101, 97, 115, 116, 32, 102, 114, 111, 109, 32, 37, 100, 32, 116, 111, 32, 37, 100, 44, 32, 110, 111, 116, 32, 37, 118]⟩ 3).run Ybaf.prog w = .ok [(0, 100, false), (1, 100, false), (2, 118, false)] w := by kernel_rfl
def shape3 : List UInt8 := [5, 3, 0, 0, 0, 0, 0, 0, 0, 105, 110, 116]
def shape22 : List UInt8 := [11, 7, 0, 0, 0, 0, 0, 0, 0, 102, 108, 111, 97, 116, 54, 52]
theorem op3 (name : String) (x : Int) (w : World) : (FmtStop.operand name true 100 false (.iface 3 (.int .i64 x))).run Ybaf.prog w = .ok (shape3, Go.Extern.Stop.digits 8 (x % 2 ^ 64).toNat) w := by kernel_rfl
theorem op22 (name : String) (x : Nat) (w : World) : (FmtStop.operand name true 118 false (.iface 22 (.float .f64 x))).run Ybaf.prog w = .ok (shape22, Go.Extern.Stop.digits 8 x) w := by kernel_rfl
theorem ptr61 (w : World) : (FmtStop.ptrTo "errors.errorString").run Ybaf.prog w = .ok 61 w := by kernel_rfl
theorem elem61 (w : World) : (elemOf 61).run Ybaf.prog w = .ok 63 w := by kernel_rfl
attribute [local go_sem] call23 guardAll printedR op3 op22 ptr61 elem61

set_option maxRecDepth 1000000 in
set_option maxHeartbeats 400000 in
theorem errorf17 (blk x : Nat) (w : World) (hc0 : w.cell? ⟨blk, 0, none⟩ = some (.iface 3 (.int .i64 (-180)))) (hc1 : w.cell? ⟨blk, 1, none⟩ = some (.iface 3 (.int .i64 180))) (hc2 : w.cell? ⟨blk, 2, none⟩ = some (.iface 22 (.float .f64 x))) :
    Calls Ybaf.prog 17 #[.string ⟨#[108, 111, 110, 103, 105, 116, 117, 100, 101, 32, 109, 117, 115, 116, 32, 98, 101, 32, 97, 32, 110, 117, 109, 98, 101, 114, 32, 111, 102, 32, 100, 101, 103, 114, 101, 101, 115, 32, 101, 97, 115, 116, 32, 102, 114, 111, 109, 32, 37, 100, 32, 116, 111, 32, 37, 100, 44, 32, 110, 111, 116, 32, 37, 118]⟩, .slice (some ⟨blk, 0, none⟩) 3 3] w fun e w' =>
      e = .returned (.iface 61 (.pointer (some ⟨w.heap.size, 0, none⟩))) ∧ Below w.heap.size w w' := by
  go_enter Ybaf.func17, Ybaf.ntmps17
  go_wp2
  go_ret
  exact ⟨rfl, ((Below.refl _ _).alloc (Nat.le_refl _) _).drew⟩
end Go.Proofs.YbulkdqguFmt
