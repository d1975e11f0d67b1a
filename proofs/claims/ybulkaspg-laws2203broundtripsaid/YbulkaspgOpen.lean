import Derived.Test.YbulkaspgSame
import Derived.ProofKit
import Derived.OpenShut
import Derived.ShutString
import Derived.ChangeOld
import Derived.Deep.Slices
namespace Go.Proofs.Ybulkaspg
open Go.ChangeShapes Go.WideShapes Go.ChangeAt Go.RowKit Go.Deep

theorem own : ownKnob Yba.prog.godebug = none := by kernel_rfl
theorem laidOut : laidOutB Yba.prog = true := by kernel_rfl
theorem Yba.cells25 : Yba.prog.cellsOf 25 = 1 := by kernel_rfl
theorem Yba.cells5 : Yba.prog.cellsOf 5 = 1 := by kernel_rfl

theorem byteRow_of {H : Type} {enc : TypeId × Value → H} {W : World} {n : Nat} {v : Value} {x : DataW H × List MemPlace}
    (h : DataW.trod enc Yba.prog W 0 (fun _ => true) true n 25 [v] = some x) : ∃ A L C, v = .slice A L C ∧ ByteRow W A L := by
  rcases open_ints Yba.underlying25 Yba.underlying5 Yba.cells5 h with ⟨hcs, _⟩ | ⟨a, len, cap, zs, hcs, _, hl, hm, hz, _, hcell, _⟩
  · simp at hcs
    exact ⟨none, 0, 0, hcs, fun h => by omega⟩
  · simp at hcs
    refine ⟨some a, len, cap, hcs, fun hn => ?_⟩
    simp only [if_true] at hz
    obtain ⟨b, o, s⟩ := a
    obtain rfl : s = none := by simpa [Addr.add] using World.cell?_spot (hcell 0 (by omega))
    refine ⟨b, o, rfl, zs.take len, by simp; omega, fun i hi => ?_⟩
    rw [← add_plain, hcell i (by omega)]
    simp [List.getD, hi]

theorem rowsIn_of {H : Type} {enc : TypeId × Value → H} {W : World} {a0 : Option Addr} {len cap : Nat} {d0 : DataW H} {p : List MemPlace}
    (h0 : DataW.Trod enc Yba.prog W 0 (fun _ => true) true 22 (.slice a0 len cap) d0 p) : RowsIn W a0 len := by
  obtain ⟨fuel, hf⟩ := h0
  rcases open_slice1 Yba.underlying22 Yba.cells25 hf with ⟨hcs, _⟩ | ⟨a, len', cap', m, n, V, D, Pl, hcs, _, hl, _, hm, _, hx⟩
  · simp [Value.cells] at hcs
    obtain ⟨rfl, rfl, rfl⟩ := hcs
    exact fun h => by omega
  · simp [Value.cells] at hcs
    obtain ⟨rfl, rfl, rfl⟩ := hcs
    simp only [if_true] at hm
    intro hn
    obtain ⟨b, o, s⟩ := a
    obtain rfl : s = none := by simpa [Addr.add] using World.cell?_spot (hx 0 (by omega)).1
    refine ⟨b, o, rfl, fun r hr => ?_⟩
    obtain ⟨h1, h2⟩ := hx r (by omega)
    obtain ⟨A, L, C, hv, hB⟩ := byteRow_of h2
    exact ⟨A, L, C, by rw [← add_plain, h1, hv], hB⟩
end Go.Proofs.Ybulkaspg
