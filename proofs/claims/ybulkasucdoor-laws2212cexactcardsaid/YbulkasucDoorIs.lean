import Derived.Test.YbulkasucDoorParts
namespace Go.Proofs.YbulkasucDoor
open Go.RowKit

theorem callTypeOf (v : Value) (w : World) : (callFunc 12 #[.iface 61 v]).run Ybad.prog w = .ok (.value (.iface 51 (.agg #[.pointer (some ⟨2, 61, none⟩)]))) w := by kernel_rfl
theorem methodComparable (v : Value) (w : World) : (Go.method 206 51 v "Comparable").run Ybad.prog w = .ok (38, v) w := by kernel_rfl
theorem callComparable (w : World) : (callFunc 38 #[.agg #[.pointer (some ⟨2, 61, none⟩)]]).run Ybad.prog w = .ok (.value (.bool true)) w := by kernel_rfl

/-- errors.Is(x, x), x a pointer to an errors.errorString. -/
theorem is_same (a : Addr) (w : World) :
    Calls Ybad.prog 8 #[.iface 61 (.pointer (some a)), .iface 61 (.pointer (some a))] w fun e w' => e = .returned (.bool true) ∧ w' = w := by
  have h1 := callTypeOf
  have h2 := methodComparable
  have h3 := callComparable
  have heq := eq61 a w
  go_enter Ybad.func8, Ybad.ntmps8
  go_wp2
  refine wp_loop_rounds 1 ?_
  rw [rounds_succ]
  go_wp2
  go_ret
  exact ⟨rfl, rfl⟩
end Go.Proofs.YbulkasucDoor
