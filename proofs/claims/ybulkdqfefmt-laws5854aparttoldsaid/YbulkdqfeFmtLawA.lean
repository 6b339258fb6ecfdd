/-
  THE WALK OF 'client.LawS5854APart': the Go text returns true, whatever the limit and the message.
-/
import Derived.Test.YbulkdqfeFmtCards
import Derived.WalkKit
import Derived.WalkSpells
import Derived.LaidEql
namespace Go.Proofs.YbulkdqfeFmt
open Go.RowKit

/-- The method that the wrapped error's call comes to: '(*zzs5854aerr).Error'. -/
theorem method_error (a : Addr) (w : World) : (method 163 23 (.pointer (some a)) "Error").run Ybaf.prog w = .ok (27, .pointer (some a)) w := by kernel_rfl

theorem comp23 : (Ybaf.prog.info? 23).map (·.comparable) = some true := by kernel_rfl
theorem comp25 : (Ybaf.prog.info? 25).map (·.comparable) = some true := by kernel_rfl
/-- The same pointer in an error's interface value, twice: equal. -/
theorem eql_same (a : Addr) (w : World) : (binOp .eql 28 (.iface 23 (.pointer (some a))) (.iface 23 (.pointer (some a)))).run Ybaf.prog w = .ok (.bool true) w := by
  obtain ⟨i, hi, hc⟩ := Option.map_eq_some_iff.1 comp23
  obtain ⟨j, hj, _⟩ := Option.map_eq_some_iff.1 comp25
  exact run_eql_iface_ptr_same w a Ybaf.underlying28 Ybaf.underlying23 hi hc hj

set_option maxHeartbeats 1000000 in
theorem walk (n : Int) (msg : ByteArray) (w : World) (h1 : -9223372036854775808 ≤ n) (h2 : n ≤ 9223372036854775807) (hm : msg.size ≤ 140737488355328) :
    Calls Ybaf.prog 3 #[.int .i64 n, .string msg] w fun e w' => e = .returned (.bool true) ∧ Below w.heap.size w w' := by
  have hmeth := method_error
  have heql := eql_same
  by_cases hn : 0 < n
  · go_enter Ybaf.func3, Ybaf.ntmps3
    go_wp2
    go_ret
    exact ⟨rfl, ((Below.refl _ _).alloc (Nat.le_refl _) _).alloc (by simp) _⟩
  · go_enter Ybaf.func3, Ybaf.ntmps3
    go_wp2
    go_ret
    exact ⟨rfl, ((Below.refl _ _).alloc (Nat.le_refl _) _).alloc (by simp) _⟩

end Go.Proofs.YbulkdqfeFmt
