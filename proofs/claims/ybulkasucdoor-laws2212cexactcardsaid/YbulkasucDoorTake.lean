import Derived.Test.YbulkasucDoorCopy
import Derived.WideLaws
import Derived.LaidEql
namespace Go.Proofs.YbulkasucDoor
open Go.RowKit
set_option linter.unusedVariables false

set_option maxHeartbeats 400000 in
theorem take_err (R n T : Nat) (v : Value) (w : World) (h1 : w.cell? ⟨R, 1, none⟩ = some (.iface T v)) :
    Calls Ybad.prog 10 #[.pointer (some ⟨R, 0, none⟩), .int .i64 n] w fun e w' => e = .returned (.slice none 0 0) ∧ w' = w := by
  go_enter Ybad.func10, Ybad.ntmps10
  go_wp2
  go_ret
  exact ⟨rfl, rfl⟩

set_option maxHeartbeats 400000 in
theorem take_short (R n m c : Nat) (a : Option Addr) (T : Nat) (E : Addr) (w : World) (h0 : w.cell? ⟨R, 0, none⟩ = some (.slice a m c)) (h1 : w.cell? ⟨R, 1, none⟩ = some .nilIface) (hE : w.cell? ⟨0, 0, none⟩ = some (.iface T (.pointer (some E))))
    (f0 : w.frozen? ⟨R, 0, none⟩ = false) (f1 : w.frozen? ⟨R, 1, none⟩ = false) (hR : 0 < R) (hm : m < n) (hn : n ≤ 8) :
    Calls Ybad.prog 10 #[.pointer (some ⟨R, 0, none⟩), .int .i64 n] w fun e w' => e = .returned (.slice none 0 0) ∧ w' = (w.setCell ⟨R, 0, none⟩ (.slice none 0 0)).setCell ⟨R, 1, none⟩ (.iface T (.pointer (some E))) := by
  have hz : ((n : Int) == 0) = false := by simp; omega
  go_enter Ybad.func10, Ybad.ntmps10
  go_wp2
  go_ret
  exact ⟨rfl, rfl⟩

set_option maxHeartbeats 400000 in
theorem take_ok (R n m c b o : Nat) (w : World) (h0 : w.cell? ⟨R, 0, none⟩ = some (.slice (some ⟨b, o, none⟩) m c)) (h1 : w.cell? ⟨R, 1, none⟩ = some .nilIface)
    (f0 : w.frozen? ⟨R, 0, none⟩ = false) (hn0 : 0 < n) (hm : n ≤ m) (hc : m ≤ c) (hn : n ≤ 8) (hcm : c ≤ 1024) :
    Calls Ybad.prog 10 #[.pointer (some ⟨R, 0, none⟩), .int .i64 n] w fun e w' => e = .returned (.slice (some ⟨b, o, none⟩) n n) ∧
      w' = w.setCell ⟨R, 0, none⟩ (.slice (if c = n then some ⟨b, o, none⟩ else some ⟨b, o + n, none⟩) (m - n) (c - n)) := by
  have hz : ((n : Int) == 0) = false := by simp; omega
  go_enter Ybad.func10, Ybad.ntmps10
  go_wp2
  all_goals (go_ret; exact ⟨rfl, rfl⟩)

/-- Below block 'B' nothing has turned but block 'R'. -/
structure KeptE (R B : Nat) (w w' : World) : Prop where
  os : w'.os = w.os
  tape : w'.tape = w.tape
  output : w'.output = w.output
  size : w.heap.size ≤ w'.heap.size
  block : ∀ k, k < B → k ≠ R → w'.heap[k]? = w.heap[k]?

theorem KeptE.refl (R B : Nat) (w : World) : KeptE R B w w := ⟨rfl, rfl, rfl, Nat.le_refl _, fun _ _ _ => rfl⟩
theorem KeptE.trans {R B : Nat} {a b c : World} (h : KeptE R B a b) (k : KeptE R B b c) : KeptE R B a c :=
  ⟨k.os.trans h.os, k.tape.trans h.tape, k.output.trans h.output, Nat.le_trans h.size k.size, fun x h1 h2 => (k.block x h1 h2).trans (h.block x h1 h2)⟩
theorem KeptE.of_below {R B : Nat} {w w' : World} (h : Below B w w') : KeptE R B w w' := ⟨h.os, h.tape, h.output, h.size, fun k hk _ => h.block k hk⟩
theorem KeptE.setCell {R B : Nat} {a w : World} (h : KeptE R B a w) (o : Nat) (u : Value) : KeptE R B a (w.setCell ⟨R, o, none⟩ u) :=
  ⟨h.os, h.tape, h.output, by simpa using h.size, fun k hk hE => by rw [Below.heap_setCell _ _ _ _ hE]; exact h.block k hk hE⟩
theorem KeptE.cell {R B : Nat} {w w' : World} (h : KeptE R B w w') {p : Addr} (hp : p.block < B) (hE : p.block ≠ R) : w'.cell? p = w.cell? p := World.cell?_of_block (w := w) (h.block p.block hp hE)
theorem KeptE.frozen {R B : Nat} {w w' : World} (h : KeptE R B w w') {p : Addr} (hp : p.block < B) (hE : p.block ≠ R) : w'.frozen? p = w.frozen? p := World.frozen?_of_block (w := w) (h.block p.block hp hE)
theorem KeptE.mono {R B D : Nat} {w w' : World} (h : KeptE R B w w') (h1 : D ≤ B) : KeptE R D w w' := ⟨h.os, h.tape, h.output, h.size, fun k hk hE => h.block k (by omega) hE⟩
theorem KeptE.below {R B D : Nat} {w w' : World} (h : KeptE R B w w') (h1 : D ≤ B) (h2 : D ≤ R) : Below D w w' :=
  ⟨h.os, h.tape, h.output, h.size, fun k hk => h.block k (by omega) (by omega)⟩

/-- A reader at block 'R' holds the slice 'v' and the error 'e'. -/
structure ReaderAt (R : Nat) (w : World) (v e : Value) : Prop where
  data : w.cell? ⟨R, 0, none⟩ = some v
  err : w.cell? ⟨R, 1, none⟩ = some e
  thaw0 : w.frozen? ⟨R, 0, none⟩ = false
  thaw1 : w.frozen? ⟨R, 1, none⟩ = false
  lt : R < w.heap.size

theorem ReaderAt.below {R : Nat} {w w' : World} {v e : Value} (h : ReaderAt R w v e) (hb : Below w.heap.size w w') : ReaderAt R w' v e :=
  ⟨(hb.cell (p := ⟨R, 0, none⟩) h.lt).trans h.data, (hb.cell (p := ⟨R, 1, none⟩) h.lt).trans h.err, (hb.frozen (p := ⟨R, 0, none⟩) h.lt).trans h.thaw0, (hb.frozen (p := ⟨R, 1, none⟩) h.lt).trans h.thaw1, Nat.lt_of_lt_of_le h.lt hb.size⟩
theorem ReaderAt.kept {R Q : Nat} {w w' : World} {v e : Value} (h : ReaderAt R w v e) (hb : KeptE Q w.heap.size w w') (hne : R ≠ Q) : ReaderAt R w' v e :=
  ⟨(hb.cell (p := ⟨R, 0, none⟩) h.lt hne).trans h.data, (hb.cell (p := ⟨R, 1, none⟩) h.lt hne).trans h.err, (hb.frozen (p := ⟨R, 0, none⟩) h.lt hne).trans h.thaw0, (hb.frozen (p := ⟨R, 1, none⟩) h.lt hne).trans h.thaw1, Nat.lt_of_lt_of_le h.lt hb.size⟩

theorem ReaderAt.set0 {R : Nat} {w : World} {v e : Value} (h : ReaderAt R w v e) (u : Value) : ReaderAt R (w.setCell ⟨R, 0, none⟩ u) u e :=
  ⟨by simp [h.data, go_sem], by simp [h.err, go_sem], by simp [h.thaw0, go_sem], by simp [h.thaw1, go_sem], by simpa using h.lt⟩
theorem ReaderAt.set1 {R : Nat} {w : World} {v e : Value} (h : ReaderAt R w v e) (u : Value) : ReaderAt R (w.setCell ⟨R, 1, none⟩ u) v u :=
  ⟨by simp [h.data, go_sem], by simp [h.err, go_sem], by simp [h.thaw0, go_sem], by simp [h.thaw1, go_sem], by simpa using h.lt⟩
end Go.Proofs.YbulkasucDoor
