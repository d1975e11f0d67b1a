import Derived.Test.YbulkaswuPull
import Derived.Laws.BytesArg
namespace Go.Proofs.Ybulkaswu
open Go.RowKit

def wireBytes (id addr : ByteArray) : List UInt8 :=
  Lib.uvarint id.size ++ id.data.toList ++ Lib.uvarint addr.size ++ addr.data.toList

theorem wire_eq (id addr : ByteArray) : wire id addr = Lib.byteCells (wireBytes id addr) := by
  simp [wire, wireBytes, Lib.byteCells, Lib.strCells]

def strOf (l : List UInt8) : ByteArray := strOfNums (l.map fun b => (b.toNat : Int))

theorem conv_own {w : World} {B n : Nat} {v : Value} {l : List UInt8} (h : w.ownsRow B 5 1 v n (Lib.byteCells l)) :
    (convert 22 9 v).run Yba.prog w = .ok (.string (strOf l)) w := by
  have hl : l.length = n := by have := h.1; simpa [Lib.byteCells] using this
  rcases h.2 with ⟨rfl, rfl⟩ | ⟨g, cap, cur, rfl, hB, hg, hn, hc, hs, ht⟩
  · have : l = [] := List.eq_nil_of_length_eq_zero hl
    subst this
    rw [run_convert_bytes_nil w 22 5 Yba.underlying22 Yba.underlying5 0 0 9 Yba.underlying9]
    rfl
  · refine run_convert_bytes_arg (P := Yba.prog) w 22 5 Yba.underlying22 Yba.underlying5 g 0 n cap _ (by simpa using hl) (fun i hi => ?_) 9 Yba.underlying9
    have h1 := h.cells (g := g) rfl i (.int .u8 (l[i]'(by omega)).toNat) (by simp [Lib.byteCells, List.getElem?_eq_getElem (show i < l.length by omega)])
    have h2 : (⟨g, 0, none⟩ : Addr).add i = ⟨g, 0 + i, none⟩ := Go.WideShapes.add_plain _ _ _
    rw [h2] at h1
    rw [h1]
    simp [List.getElem?_eq_getElem (show i < l.length by omega)]

theorem owns_later {w w' : World} {B n : Nat} {v : Value} {xs : List Value} (h : w.ownsRow B 5 1 v n xs) (hb : Below w.heap.size w w') : w'.ownsRow B 5 1 v n xs := by
  refine ⟨h.1, ?_⟩
  rcases h.2 with h0 | ⟨g, cap, cur, hv, hB, hg, hr⟩
  · exact .inl h0
  · have hlt : g < w.heap.size := by
      rcases Nat.lt_or_ge g w.heap.size with h | h
      · exact h
      · simp [Array.getElem?_eq_none h] at hg
    exact .inr ⟨g, cap, cur, hv, hB, (hb.block g hlt).trans hg, hr⟩

theorem own_cast {w : World} {B n : Nat} {v : Value} {xs ys : List Value} (h : w.ownsRow B 5 1 v n xs) (e : xs = ys) : ∃ n, w.ownsRow B 5 1 v n ys := ⟨n, e ▸ h⟩

theorem equal_own (B B' n n' : Nat) (v v' : Value) (l : List UInt8) (w : World) (h : w.ownsRow B 5 1 v n (Lib.byteCells l)) (h' : w.ownsRow B' 5 1 v' n' (Lib.byteCells l)) :
    Calls Yba.prog 6 #[v, v'] w fun e w' => e = .returned (.bool true) ∧ w' = w := by
  have c1 := conv_own h
  have c2 := conv_own h'
  obtain ⟨a, m, c, rfl⟩ := slice_of_owns h
  obtain ⟨a', m', c', rfl⟩ := slice_of_owns h'
  go_enter Yba.func6, Yba.ntmps6
  go_wp2
  go_ret
  exact ⟨rfl, rfl⟩

theorem law_big (id addr : ByteArray) (w : World) (hb : 1048576 < id.size ∨ 1048576 < addr.size) (h1 : id.size ≤ maxLen) (h2 : addr.size ≤ maxLen) :
    Calls Yba.prog 3 #[.string id, .string addr] w fun e w' => e = .returned (.bool true) ∧ Below w.heap.size w w' := by
  unfold maxLen at h1 h2
  by_cases h : 1048576 < id.size
  · go_enter Yba.func3, Yba.ntmps3
    go_wp2
    go_ret
    exact ⟨rfl, Below.refl _ _⟩
  · have h' : 1048576 < addr.size := by omega
    go_enter Yba.func3, Yba.ntmps3
    go_wp2
    go_ret
    exact ⟨rfl, Below.refl _ _⟩

set_option maxHeartbeats 1000000 in
theorem law_small (id addr : ByteArray) (w : World) (h1 : id.size ≤ 1048576) (h2 : addr.size ≤ 1048576) :
    Calls Yba.prog 3 #[.string id, .string addr] w fun e w' => e = .returned (.bool true) ∧ Below w.heap.size w w' := by
  obtain ⟨i0, hi, hz0, hz1, hz2⟩ := info_parts Yba.info5
  have hu1 : (Lib.uvarint id.size).length ≤ 10 := Lib.uvarint_length64 (by omega)
  have hu2 : (Lib.uvarint addr.size).length ≤ 10 := Lib.uvarint_length64 (by omega)
  go_enter Yba.func3, Yba.ntmps3
  go_wp2_with fail
  refine (pull_at id addr h1 h2 _).mono ?_
  rintro e w1 ⟨v1, n1, rfl, own1, hb1⟩
  obtain ⟨a1, m1, c1, rfl⟩ := slice_of_owns own1
  go_wp2_with fail
  refine (auv w1.heap.size 0 id.size (by omega) (.slice none 0 0) [] _ (World.ownsRow_nil _ _ _ _) (Nat.le_refl _) (by omega)).mono ?_
  rintro e w2 ⟨v2, rfl, own2, hb2⟩
  obtain ⟨a2, m2, c2, rfl⟩ := slice_of_owns own2
  have hz2' := hb2.size
  go_wp2_with (at_builtin; refine Lib.wpList_append_own_string _ rfl _ _ 22 9 rfl w1.heap.size 5 i0 Yba.underlying22 Yba.underlying9 hi hz0 hz1 hz2 _ _ _ rfl own2 id rfl ?c3 ?c4 hz2' ?_)
  case c3 => unfold maxLen; omega
  case c4 => omega
  intro v3 w3 own3 hgrow3 _
  have hb3 : Below w1.heap.size w1 w3 := hb2.grown hgrow3 hz2' (fun k hk => (own2.lt k hk).1)
  obtain ⟨a3, m3, c3, rfl⟩ := slice_of_owns own3
  have hz3' := hb3.size
  go_wp2_with fail
  refine (auv w1.heap.size _ addr.size (by omega) _ _ _ own3 hz3' (by omega)).mono ?_
  rintro e w4 ⟨v4, rfl, own4, hb34⟩
  have hb4 := hb3.trans hb34
  obtain ⟨a4, m4, c4, rfl⟩ := slice_of_owns own4
  have hz4' := hb4.size
  go_wp2_with (at_builtin; refine Lib.wpList_append_own_string _ rfl _ _ 22 9 rfl w1.heap.size 5 i0 Yba.underlying22 Yba.underlying9 hi hz0 hz1 hz2 _ _ _ rfl own4 addr rfl ?c3 ?c4 hz4' ?_)
  case c3 => unfold maxLen; omega
  case c4 => omega
  intro v5 w5 own5 hgrow5 _
  have hb5 : Below w1.heap.size w1 w5 := hb4.grown hgrow5 hz4' (fun k hk => (own4.lt k hk).1)
  obtain ⟨a5, m5, c5, rfl⟩ := slice_of_owns own5
  have own1' := owns_later own1 hb5
  rw [wire_eq] at own1'
  obtain ⟨n5, own5'⟩ := own_cast own5 (ys := Lib.byteCells (wireBytes id addr)) (by simp [wireBytes, Lib.byteCells, Lib.strCells])
  go_wp2_with fail
  refine (equal_own _ _ _ _ _ _ (wireBytes id addr) _ own1' own5').mono ?_
  rintro e w6 ⟨rfl, rfl⟩
  go_wp2
  go_ret
  exact ⟨rfl, hb1.trans (hb5.mono hb1.size)⟩

theorem law (id addr : ByteArray) (w : World) (h1 : id.size ≤ maxLen) (h2 : addr.size ≤ maxLen) :
    Calls Yba.prog 3 #[.string id, .string addr] w fun e w' => e = .returned (.bool true) ∧ Below w.heap.size w w' := by
  by_cases h : 1048576 < id.size ∨ 1048576 < addr.size
  · exact law_big id addr w h h1 h2
  · exact law_small id addr w (by omega) (by omega)
end Go.Proofs.Ybulkaswu
