import Derived.Test.YbulkaswuEnc
namespace Go.Proofs.Ybulkaswu
open Go.RowKit

/-- The bytes of a message that names a node. -/
def wire (id addr : ByteArray) : List Value :=
  Lib.byteCells (Lib.uvarint id.size) ++ Lib.strCells id ++ Lib.byteCells (Lib.uvarint addr.size) ++ Lib.strCells addr

set_option maxHeartbeats 1000000 in
theorem pull_at (id addr : ByteArray) (h1 : id.size ≤ 1048576) (h2 : addr.size ≤ 1048576) (w : World) :
    Calls Yba.prog 4 #[.agg #[.string id, .string addr]] w fun e w' => ∃ v n, e = .returned v ∧ w'.ownsRow (w.heap.size + 1 + 1 + 1 + 1) 5 1 v n (wire id addr) ∧ Below w.heap.size w w' := by
  have hu1 : (Lib.uvarint id.size).length ≤ 10 := Lib.uvarint_length64 (by omega)
  go_enter Yba.func4, Yba.ntmps4
  go_wp2_with (first | (go_at_call 7; go_in) | (go_at_call 8; go_in))
  refine (str_at (w.heap.size + 1) (w.heap.size + 1 + 1 + 1 + 1) 0 id h1 (.slice none 0 0) [] _ ⟨?_, ?_, ?_, ?_, ?_, ?_⟩ (by omega)).mono ?_
  · omega
  · simp
  · simp [go_sem]
  · simp [go_sem]
  · simp [go_sem]
  · exact World.ownsRow_nil _ _ _ _
  rintro e w1 ⟨rfl, v1, en1, hk1⟩
  have hp : w1.cell? ⟨w.heap.size + 1 + 1 + 1, 1, none⟩ = some (.string addr) := by
    rw [hk1.cell (p := ⟨w.heap.size + 1 + 1 + 1, 1, none⟩) (by simp) (by simp; omega)]
    simp [go_sem]
  go_wp2_with fail
  refine (str_at (w.heap.size + 1) (w.heap.size + 1 + 1 + 1 + 1) _ addr h2 v1 _ _ en1 (by omega)).mono ?_
  rintro e w2 ⟨rfl, v2, ⟨lt, le, buf, thaw, sizing, own⟩, hk2⟩
  obtain ⟨a, m, c, rfl⟩ := slice_of_owns own
  go_wp2
  go_end0
  go_wp2
  go_end0
  go_wp2
  go_ret
  have ew : wire id addr = [] ++ Lib.byteCells (Lib.uvarint id.size) ++ Lib.strCells id ++ Lib.byteCells (Lib.uvarint addr.size) ++ Lib.strCells addr := by simp [wire]
  refine ⟨.slice a m c, _, rfl, ew ▸ own, ?_⟩
  exact (((((Below.refl _ _).alloc (Nat.le_refl _) _).alloc (by simp) _).alloc (by simp; omega) _).alloc (by simp; omega) _).trans ((hk1.trans hk2).below (by omega) (by omega))
end Go.Proofs.Ybulkaswu
