import Derived.Test.YbulkasucDoorIs
namespace Go.Proofs.YbulkasucDoor
open Go.RowKit
set_option linter.unusedVariables false

theorem exact_big (p : Option Addr) (n c : Nat) (b : Bool) (w : World) (hn : 1024 < n) :
    Calls Ybad.prog 3 #[.slice p n c, .bool b] w fun e w' => e = .returned (.bool true) ∧ Below w.heap.size w w' := by
  go_enter Ybad.func3, Ybad.ntmps3
  go_wp2
  go_ret
  exact ⟨rfl, Below.refl _ _⟩

set_option maxHeartbeats 1000000 in
theorem exact_err (p : Option Addr) (n c : Nat) (f : Nat → Int) (w : World) (h : BytesAt w p n f) (hp : p = none → n = 0 ∧ c = 0) (hn : n ≤ 1024) :
    Calls Ybad.prog 3 #[.slice p n c, .bool true] w fun e w' => e = .returned (.bool true) ∧ Below w.heap.size w w' := by
  go_enter Ybad.func3, Ybad.ntmps3
  go_wp2_with fail
  refine (copy_any p n c f _ h hp hn).mono ?_
  rintro e w1 ⟨p1, rfl, i1, x1, b1, K1⟩
  have z1 : w.heap.size ≤ w1.heap.size := K1.size
  clear x1
  have L1 : Below w1.heap.size w1 (w1.alloc (.cells #[.int .u8 1] 28)) := (Below.refl _ _).alloc (Nat.le_refl _) _
  have ra := reader_new (w1.alloc (.cells #[.int .u8 1] 28)) (.slice p1 n n) (.iface 26 (.pointer (some ⟨w1.heap.size, 0, none⟩)))
  rw [show (w1.alloc (.cells #[.int .u8 1] 28)).heap.size = w1.heap.size + 1 from by simp] at ra
  have L2 := (Below.refl _ (w1.alloc (.cells #[.int .u8 1] 28))).alloc (Nat.le_refl _) (.cells #[.slice p1 n n, .iface 26 (.pointer (some ⟨w1.heap.size, 0, none⟩))] 31)
  have K3 := K1.trans ((L1.trans (L2.mono (by simp))).mono z1)
  have b1' := (b1.below L1).below L2
  have b0' := h.below K3
  go_wp2_with fail
  refine (uint64_err (w1.heap.size + 1) 26 _ _ _ ra).mono ?_
  rintro e w3 ⟨rfl, hw3⟩
  rw [← hw3] at ra b1' b0' K3
  clear hw3 L1 L2 b1
  have d1 := ra.data
  have e1 := ra.err
  have g22 := q22
  have g26 := eq26
  go_wp2_with fail
  refine (eqb_true _ _ n _ _ f _ b1' b0' hn).mono ?_
  rintro e w4 ⟨rfl, m4, rfl⟩
  go_wp2
  go_ret
  exact ⟨rfl, below_drewN K3 _⟩

set_option maxHeartbeats 1000000 in
theorem exact_short (p : Option Addr) (n c : Nat) (f : Nat → Int) (E : Addr) (w : World) (h : BytesAt w p n f) (hp : p = none → n = 0 ∧ c = 0) (hE : w.cell? ⟨0, 0, none⟩ = some (.iface 61 (.pointer (some E)))) (hn : n < 8) :
    Calls Ybad.prog 3 #[.slice p n c, .bool false] w fun e w' => e = .returned (.bool true) ∧ Below w.heap.size w w' := by
  have hw0 : 0 < w.heap.size := World.block_lt_of_cell? _ _ hE
  go_enter Ybad.func3, Ybad.ntmps3
  go_wp2_with fail
  refine (copy_any p n c f _ h hp (by omega)).mono ?_
  rintro e w1 ⟨p1, rfl, i1, x1, b1, K1⟩
  have z1 : w.heap.size ≤ w1.heap.size := K1.size
  clear x1
  have ra := reader_new w1 (.slice p1 n n) .nilIface
  have K2 : Below w.heap.size w (w1.alloc (.cells #[.slice p1 n n, .nilIface] 31)) := K1.alloc z1 _
  have E2 := cell_later K2 hE
  go_wp2_with fail
  refine (uint64_short w1.heap.size n n 61 _ E _ ra E2 (by omega) (by omega)).mono ?_
  rintro e w3 ⟨rfl, ra3, k3⟩
  have E3 := (k3.cell (p := ⟨0, 0, none⟩) (by simp) (by simp; omega)).trans E2
  have K3 := K2.trans (k3.below (D := w.heap.size) (by simp; omega) (by omega))
  clear ra E2 k3 b1
  have d1 := ra3.data
  have e1 := ra3.err
  have g22 := q22
  go_wp2
  go_quiet ((go_at_call 8; exact Calls.quiet_of_same (is_same _ _)))
  go_wp2
  go_ret
  exact ⟨rfl, below_drewN K3 _⟩
end Go.Proofs.YbulkasucDoor
