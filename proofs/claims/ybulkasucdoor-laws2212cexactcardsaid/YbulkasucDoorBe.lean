import Derived.Test.YbulkasucDoorRows
import Derived.Lib.Walk
import Derived.Lib.EndianBits
import Derived.Stop.LaidErr
import Derived.WalkKit
import Derived.WalkSpells
import Derived.WalkLawsBesides
import Derived.RegionTactic
import Derived.Deep.Draws
import Derived.Deep.QuietTactic
import Derived.BigQuiet
import Derived.Deep.OwnRows
namespace Go.Proofs.YbulkasucDoor
open Go.RowKit

def be8 (z0 z1 z2 z3 z4 z5 z6 z7 : Int) : Int := z7 + z6 * 256 + z5 * 65536 + z4 * 16777216 + z3 * 4294967296 + z2 * 1099511627776 + z1 * 281474976710656 + z0 * 72057594037927936

set_option maxHeartbeats 8000000 in
set_option maxRecDepth 100000 in
theorem uint64_at (g o n c : Nat) (z0 z1 z2 z3 z4 z5 z6 z7 : Int) (w : World) (hn : 8 ≤ n) (h0 : 0 ≤ z0 ∧ z0 ≤ 255) (h1 : 0 ≤ z1 ∧ z1 ≤ 255) (h2 : 0 ≤ z2 ∧ z2 ≤ 255) (h3 : 0 ≤ z3 ∧ z3 ≤ 255) (h4 : 0 ≤ z4 ∧ z4 ≤ 255) (h5 : 0 ≤ z5 ∧ z5 ≤ 255) (h6 : 0 ≤ z6 ∧ z6 ≤ 255) (h7 : 0 ≤ z7 ∧ z7 ≤ 255) (c0 : w.cell? ⟨g, o, none⟩ = some (.int .u8 z0)) (c1 : w.cell? ⟨g, o + 1, none⟩ = some (.int .u8 z1)) (c2 : w.cell? ⟨g, o + 2, none⟩ = some (.int .u8 z2)) (c3 : w.cell? ⟨g, o + 3, none⟩ = some (.int .u8 z3)) (c4 : w.cell? ⟨g, o + 4, none⟩ = some (.int .u8 z4)) (c5 : w.cell? ⟨g, o + 5, none⟩ = some (.int .u8 z5)) (c6 : w.cell? ⟨g, o + 6, none⟩ = some (.int .u8 z6)) (c7 : w.cell? ⟨g, o + 7, none⟩ = some (.int .u8 z7)) :
    Calls Ybad.prog 11 #[.agg #[], .slice (some ⟨g, o, none⟩) n c] w fun e w' => e = .returned (.int .u64 (be8 z0 z1 z2 z3 z4 z5 z6 z7)) ∧ Below w.heap.size w w' := by
  have d0 := cell?_alloc_old (.cells #[] 42) c0
  obtain ⟨l0, u0⟩ := h0
  have d1 := cell?_alloc_old (.cells #[] 42) c1
  obtain ⟨l1, u1⟩ := h1
  have d2 := cell?_alloc_old (.cells #[] 42) c2
  obtain ⟨l2, u2⟩ := h2
  have d3 := cell?_alloc_old (.cells #[] 42) c3
  obtain ⟨l3, u3⟩ := h3
  have d4 := cell?_alloc_old (.cells #[] 42) c4
  obtain ⟨l4, u4⟩ := h4
  have d5 := cell?_alloc_old (.cells #[] 42) c5
  obtain ⟨l5, u5⟩ := h5
  have d6 := cell?_alloc_old (.cells #[] 42) c6
  obtain ⟨l6, u6⟩ := h6
  have d7 := cell?_alloc_old (.cells #[] 42) c7
  obtain ⟨l7, u7⟩ := h7
  have q0 : 0 < n := by omega
  have q1 : (1 : Int) < (n : Int) := by omega
  have q2 : (2 : Int) < (n : Int) := by omega
  have q3 : (3 : Int) < (n : Int) := by omega
  have q4 : (4 : Int) < (n : Int) := by omega
  have q5 : (5 : Int) < (n : Int) := by omega
  have q6 : (6 : Int) < (n : Int) := by omega
  have q7 : (7 : Int) < (n : Int) := by omega
  go_enter Ybad.func11, Ybad.ntmps11
  go_wp2
  go_quiet (fail)
  go_wp2
  go_ret
  refine ⟨?_, ((Below.refl _ w).alloc (Nat.le_refl _) _).trans ⟨rfl, rfl, rfl, Nat.le_refl _, fun _ _ => rfl⟩⟩
  unfold be8
  simp (disch := omega) only [u64_or8, u64_or16, u64_or24, u64_or32, u64_or40, u64_or48, u64_or56]
  rfl

def be4 (z0 z1 z2 z3 : Int) : Int := z3 + z2 * 256 + z1 * 65536 + z0 * 16777216

set_option maxHeartbeats 8000000 in
set_option maxRecDepth 100000 in
theorem uint32_at (g o n c : Nat) (z0 z1 z2 z3 : Int) (w : World) (hn : 4 ≤ n) (h0 : 0 ≤ z0 ∧ z0 ≤ 255) (h1 : 0 ≤ z1 ∧ z1 ≤ 255) (h2 : 0 ≤ z2 ∧ z2 ≤ 255) (h3 : 0 ≤ z3 ∧ z3 ≤ 255) (c0 : w.cell? ⟨g, o, none⟩ = some (.int .u8 z0)) (c1 : w.cell? ⟨g, o + 1, none⟩ = some (.int .u8 z1)) (c2 : w.cell? ⟨g, o + 2, none⟩ = some (.int .u8 z2)) (c3 : w.cell? ⟨g, o + 3, none⟩ = some (.int .u8 z3)) :
    Calls Ybad.prog 14 #[.agg #[], .slice (some ⟨g, o, none⟩) n c] w fun e w' => e = .returned (.int .u32 (be4 z0 z1 z2 z3)) ∧ Below w.heap.size w w' := by
  have d0 := cell?_alloc_old (.cells #[] 42) c0
  obtain ⟨l0, u0⟩ := h0
  have d1 := cell?_alloc_old (.cells #[] 42) c1
  obtain ⟨l1, u1⟩ := h1
  have d2 := cell?_alloc_old (.cells #[] 42) c2
  obtain ⟨l2, u2⟩ := h2
  have d3 := cell?_alloc_old (.cells #[] 42) c3
  obtain ⟨l3, u3⟩ := h3
  have q0 : 0 < n := by omega
  have q1 : (1 : Int) < (n : Int) := by omega
  have q2 : (2 : Int) < (n : Int) := by omega
  have q3 : (3 : Int) < (n : Int) := by omega
  go_enter Ybad.func14, Ybad.ntmps14
  go_wp2
  go_quiet (fail)
  go_wp2
  go_ret
  refine ⟨?_, ((Below.refl _ w).alloc (Nat.le_refl _) _).trans ⟨rfl, rfl, rfl, Nat.le_refl _, fun _ _ => rfl⟩⟩
  unfold be4
  simp (disch := omega) only [u32_or8, u32_or16, u32_or24]
  rfl

end Go.Proofs.YbulkasucDoor
