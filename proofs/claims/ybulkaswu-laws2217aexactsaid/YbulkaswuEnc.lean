import Derived.Test.YbulkaswuUv
namespace Go.Proofs.Ybulkaswu
open Go.RowKit

/-- Below block 'B' nothing has turned but block 'E'. -/
structure KeptE (E B : Nat) (w w' : World) : Prop where
  os : w'.os = w.os
  tape : w'.tape = w.tape
  output : w'.output = w.output
  size : w.heap.size ≤ w'.heap.size
  block : ∀ k, k < B → k ≠ E → w'.heap[k]? = w.heap[k]?

theorem KeptE.refl (E B : Nat) (w : World) : KeptE E B w w := ⟨rfl, rfl, rfl, Nat.le_refl _, fun _ _ _ => rfl⟩
theorem KeptE.trans {E B : Nat} {a b c : World} (h : KeptE E B a b) (k : KeptE E B b c) : KeptE E B a c :=
  ⟨k.os.trans h.os, k.tape.trans h.tape, k.output.trans h.output, Nat.le_trans h.size k.size, fun x h1 h2 => (k.block x h1 h2).trans (h.block x h1 h2)⟩
theorem KeptE.of_below {E B : Nat} {w w' : World} (h : Below B w w') : KeptE E B w w' := ⟨h.os, h.tape, h.output, h.size, fun k hk _ => h.block k hk⟩
theorem KeptE.setCell {E B : Nat} {a w : World} (h : KeptE E B a w) (o : Nat) (u : Value) : KeptE E B a (w.setCell ⟨E, o, none⟩ u) :=
  ⟨h.os, h.tape, h.output, by simpa using h.size, fun k hk hE => by rw [Below.heap_setCell _ _ _ _ hE]; exact h.block k hk hE⟩
theorem KeptE.cell {E B : Nat} {w w' : World} (h : KeptE E B w w') {p : Addr} (hp : p.block < B) (hE : p.block ≠ E) : w'.cell? p = w.cell? p := World.cell?_of_block (w := w) (h.block p.block hp hE)
theorem KeptE.below {E B D : Nat} {w w' : World} (h : KeptE E B w w') (h1 : D ≤ B) (h2 : D ≤ E) : Below D w w' :=
  ⟨h.os, h.tape, h.output, h.size, fun k hk => h.block k (by omega) (by omega)⟩

/-- The encoder at block 'E' holds 'v', which owns 'xs' from block 'B' on; it does not size. -/
structure EncAt (E B : Nat) (w : World) (v : Value) (n : Nat) (xs : List Value) : Prop where
  lt : E < B
  le : B ≤ w.heap.size
  buf : w.cell? ⟨E, 0, none⟩ = some v
  thaw : w.frozen? ⟨E, 0, none⟩ = false
  sizing : w.cell? ⟨E, 1, none⟩ = some (.bool false)
  own : w.ownsRow B 5 1 v n xs

theorem slice_of_owns {w : World} {B e n : Nat} {v : Value} {xs : List Value} (h : w.ownsRow B e 1 v n xs) : ∃ a m c, v = .slice a m c := by
  rcases h.2 with ⟨rfl, _⟩ | ⟨g, cap, cur, rfl, _⟩
  · exact ⟨_, _, _, rfl⟩
  · exact ⟨_, _, _, rfl⟩

set_option maxHeartbeats 1000000 in
theorem uint_at (E B n x : Nat) (hx : x ≤ 1048576) (v : Value) (xs : List Value) (w : World) (h : EncAt E B w v n xs) (hlim : n + 10 ≤ 140737488355328) :
    Calls Yba.prog 10 #[.pointer (some ⟨E, 0, none⟩), .int .i64 x] w fun e w' => e = .returned (.tuple #[]) ∧ ∃ v', EncAt E B w' v' (n + (Lib.uvarint x).length) (xs ++ Lib.byteCells (Lib.uvarint x)) ∧ KeptE E B w w' := by
  obtain ⟨lt, le, buf, thaw, sizing, own⟩ := h
  obtain ⟨a, m, c, rfl⟩ := slice_of_owns own
  go_enter Yba.func10, Yba.ntmps10
  go_wp2_with fail
  refine (appendUvarint B n x (by omega) _ xs _ own le hlim).mono ?_
  rintro e w1 ⟨v', rfl, own', hb⟩
  obtain ⟨a', m', c', rfl⟩ := slice_of_owns own'
  have buf' := (hb.cell (p := ⟨E, 0, none⟩) lt).trans buf
  have thaw' := (hb.frozen (p := ⟨E, 0, none⟩) lt).trans thaw
  have sizing' := (hb.cell (p := ⟨E, 1, none⟩) lt).trans sizing
  go_wp2
  go_end0
  refine ⟨rfl, .slice a' m' c', ⟨lt, ?_, ?_, ?_, ?_, ?_⟩, (KeptE.of_below hb).setCell 0 _⟩
  · have := hb.size; simp; omega
  · simp [buf', go_sem]
  · simp [thaw', go_sem]
  · simp [sizing', go_sem]
  · exact ownsRow_setCell_below own' lt _

set_option maxHeartbeats 1000000 in
theorem str_at (E B n : Nat) (s : ByteArray) (hx : s.size ≤ 1048576) (v : Value) (xs : List Value) (w : World) (h : EncAt E B w v n xs) (hlim : n ≤ 4194304) :
    Calls Yba.prog 9 #[.pointer (some ⟨E, 0, none⟩), .string s] w fun e w' => e = .returned (.tuple #[]) ∧ ∃ v', EncAt E B w' v' (n + (Lib.uvarint s.size).length + s.size) (xs ++ Lib.byteCells (Lib.uvarint s.size) ++ Lib.strCells s) ∧ KeptE E B w w' := by
  obtain ⟨i0, hi, hz0, hz1, hz2⟩ := info_parts Yba.info5
  go_enter Yba.func9, Yba.ntmps9
  go_wp2_with fail
  refine (uint_at E B n s.size hx _ xs _ h (by omega)).mono ?_
  rintro e w1 ⟨rfl, v', ⟨lt, le, buf, thaw, sizing, own⟩, hk⟩
  obtain ⟨a, m, c, rfl⟩ := slice_of_owns own
  have hul : (Lib.uvarint s.size).length ≤ 10 := Lib.uvarint_length64 (by omega)
  go_wp2_with (at_builtin; refine Lib.wpList_append_own_string _ rfl _ _ 22 9 rfl B 5 i0 Yba.underlying22 Yba.underlying9 hi hz0 hz1 hz2 _ _ _ rfl own s rfl ?c3 ?c4 le ?_)
  case c3 => unfold maxLen; omega
  case c4 => omega
  intro v2 w2 own2 hgrow _
  obtain ⟨a2, m2, c2, rfl⟩ := slice_of_owns own2
  have hb : Below B w1 w2 := (Below.refl B w1).grown hgrow le (fun k hk => (own.lt k hk).1)
  have buf' := (hb.cell (p := ⟨E, 0, none⟩) lt).trans buf
  have thaw' := (hb.frozen (p := ⟨E, 0, none⟩) lt).trans thaw
  have sizing' := (hb.cell (p := ⟨E, 1, none⟩) lt).trans sizing
  go_wp2
  go_end0
  refine ⟨rfl, .slice a2 m2 c2, ⟨lt, ?_, ?_, ?_, ?_, ?_⟩, (hk.trans (KeptE.of_below hb)).setCell 0 _⟩
  · have := hb.size; simp; omega
  · simp [buf', go_sem]
  · simp [thaw', go_sem]
  · simp [sizing', go_sem]
  · rw [List.append_assoc]
    exact ownsRow_setCell_below (a := ⟨E, 0, none⟩) own2 lt _
end Go.Proofs.Ybulkaswu
