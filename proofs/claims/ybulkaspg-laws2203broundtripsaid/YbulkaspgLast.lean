import Derived.Test.YbulkaspgSame
namespace Go.Proofs.Ybulkaspg
open Go.RowKit

theorem walkLast_big (a b : Option Addr) (la ca lb cb : Nat) (hm : Bool) (w : World) (h : 1024 < la ∨ 1024 < lb) :
    Calls Yba.prog 4 #[.slice a la ca, .slice b lb cb, .bool hm] w fun e w' => e = .returned (.bool true) ∧ Below w.heap.size w w' := by
  by_cases h1 : 1024 < la
  · go_enter Yba.func4, Yba.ntmps4
    go_wp2
    go_ret
    exact ⟨rfl, Below.refl _ _⟩
  · have h2 : 1024 < lb := by omega
    go_enter Yba.func4, Yba.ntmps4
    go_wp2
    go_ret
    exact ⟨rfl, Below.refl _ _⟩

/-- A 'fieldValue' at block 'b' whose 'more' leads to block 'm'. -/
theorem list_at (b m n c : Nat) (a : Option Addr) (w : World) (h1 : w.cell? ⟨b, 3, none⟩ = some (.pointer (some ⟨m, 0, none⟩))) (h2 : w.cell? ⟨m, 0, none⟩ = some (.slice a n c)) :
    Calls Yba.prog 7 #[.pointer (some ⟨b, 0, none⟩)] w fun e w' => e = .returned (.slice a n c) ∧ w' = w := by
  go_enter Yba.func7, Yba.ntmps7
  go_wp2
  go_ret
  exact ⟨rfl, rfl⟩

theorem msgs_at (b m n c : Nat) (a : Option Addr) (w : World) (h1 : w.cell? ⟨b, 3, none⟩ = some (.pointer (some ⟨m, 0, none⟩))) (h2 : w.cell? ⟨m, 1, none⟩ = some (.slice a n c)) :
    Calls Yba.prog 8 #[.pointer (some ⟨b, 0, none⟩)] w fun e w' => e = .returned (.slice a n c) ∧ w' = w := by
  go_enter Yba.func8, Yba.ntmps8
  go_wp2
  go_ret
  exact ⟨rfl, rfl⟩

theorem set_at (b m n c : Nat) (a : Option Addr) (v : Value) (w : World) (h1 : w.cell? ⟨b, 3, none⟩ = some (.pointer (some ⟨m, 0, none⟩))) (h2 : w.cell? ⟨m, 0, none⟩ = some v) (h3 : w.frozen? ⟨m, 0, none⟩ = false) :
    Calls Yba.prog 5 #[.pointer (some ⟨b, 0, none⟩), .slice a n c] w fun e w' => e = .returned (.tuple #[]) ∧ w' = w.setCell ⟨m, 0, none⟩ (.slice a n c) := by
  go_enter Yba.func5, Yba.ntmps5
  go_wp2
  go_end0
  exact ⟨rfl, rfl⟩

theorem set_new (b n c : Nat) (a : Option Addr) (w : World) (h1 : w.cell? ⟨b, 3, none⟩ = some (.pointer none)) (h3 : w.frozen? ⟨b, 3, none⟩ = false) (hb : b < w.heap.size) :
    Calls Yba.prog 5 #[.pointer (some ⟨b, 0, none⟩), .slice a n c] w fun e w' => e = .returned (.tuple #[]) ∧
      w' = (w.setCell ⟨b, 3, none⟩ (.pointer (some ⟨w.heap.size, 0, none⟩))).alloc (.cells #[.slice a n c, .slice none 0 0] 31) := by
  go_enter Yba.func5, Yba.ntmps5
  go_wp2
  go_end0
  exact ⟨rfl, rfl⟩

theorem RowsIn.below {w w' : World} {a : Option Addr} {n : Nat} (hr : RowsIn w a n) (hb : Below w.heap.size w w') : RowsIn w' a n :=
  hr.later fun _ _ h => cell_later hb h

set_option maxHeartbeats 1000000 in
theorem walkLast_t (a b : Option Addr) (la ca lb cb : Nat) (w : World) (h1 : la ≤ 1024) (h2 : lb ≤ 1024) (hA : RowsIn w a la) (hB : RowsIn w b lb) :
    Calls Yba.prog 4 #[.slice a la ca, .slice b lb cb, .bool true] w fun e w' => e = .returned (.bool true) ∧ Below w.heap.size w w' := by
  go_enter Yba.func4, Yba.ntmps4
  go_wp2_with fail
  refine (set_at w.heap.size (w.heap.size + 1) la ca a (.slice none 0 0) _ ?_ ?_ ?_).mono ?_
  · simp [go_sem]
  · simp [go_sem]
  · simp [go_sem]
  rintro e w1 ⟨rfl, rfl⟩
  go_wp2_with fail
  refine (list_at w.heap.size (w.heap.size + 1) la ca a _ ?_ ?_).mono ?_
  · simp [go_sem]
  · simp [go_sem]
  rintro e w1 ⟨rfl, rfl⟩
  go_wp2_with fail
  refine (same_same a la ca _ ?_ h1).mono ?_
  · exact hA.below (((Below.refl _ _).alloc (Nat.le_refl _) _).alloc (by simp) _)
  rintro e w1 ⟨rfl, m1, rfl⟩
  go_wp2_with fail
  refine (set_at w.heap.size (w.heap.size + 1) lb cb b (.slice a la ca) _ ?_ ?_ ?_).mono ?_
  · simp [go_sem]
  · simp [go_sem]
  · simp [go_sem]
  rintro e w1 ⟨rfl, rfl⟩
  go_wp2_with fail
  refine (list_at w.heap.size (w.heap.size + 1) lb cb b _ ?_ ?_).mono ?_
  · simp [go_sem]
  · simp [go_sem]
  rintro e w1 ⟨rfl, rfl⟩
  go_wp2_with fail
  have hb : Below w.heap.size w ((((w.alloc (Obj.cells #[Value.int IntKind.u64 0, Value.slice none 0 0, Value.slice none 0 0, Value.pointer (some { block := w.heap.size + 1, off := 0 }), Value.bool false, Value.int IntKind.i32 0] 28)).alloc
            (Obj.cells #[Value.slice a la ca, Value.slice none 0 0] 31)).drewN m1).setCell { block := w.heap.size + 1, off := 0 } (Value.slice b lb cb)) :=
    (below_drewN ((((Below.refl _ _).alloc (Nat.le_refl _) _).alloc (by simp) _)) _).setCell (by simp) _
  refine (same_same b lb cb _ (hB.below hb) h2).mono ?_
  rintro e w1 ⟨rfl, m2, rfl⟩
  go_wp2_with fail
  refine (msgs_at w.heap.size (w.heap.size + 1) 0 0 none _ ?_ ?_).mono ?_
  · simp [go_sem]
  · simp [go_sem]
  rintro e w1 ⟨rfl, rfl⟩
  go_wp2
  go_ret
  exact ⟨rfl, below_drewN hb _⟩

set_option maxHeartbeats 1000000 in
theorem walkLast_f (a b : Option Addr) (la ca lb cb : Nat) (w : World) (h1 : la ≤ 1024) (h2 : lb ≤ 1024) (hA : RowsIn w a la) (hB : RowsIn w b lb) :
    Calls Yba.prog 4 #[.slice a la ca, .slice b lb cb, .bool false] w fun e w' => e = .returned (.bool true) ∧ Below w.heap.size w w' := by
  go_enter Yba.func4, Yba.ntmps4
  go_wp2_with fail
  refine (set_new w.heap.size la ca a _ ?_ ?_ ?_).mono ?_
  · simp [go_sem]
  · simp [go_sem]
  · simp [go_sem]
  rintro e w1 ⟨rfl, rfl⟩
  go_wp2_with fail
  refine (list_at w.heap.size (w.heap.size + 1) la ca a _ ?_ ?_).mono ?_
  · simp [go_sem]
  · simp [go_sem]
  rintro e w1 ⟨rfl, rfl⟩
  go_wp2_with fail
  refine (same_same a la ca _ ?_ h1).mono ?_
  · exact hA.below (((Below.refl _ _).alloc (Nat.le_refl _) _).alloc (by simp) _)
  rintro e w1 ⟨rfl, m1, rfl⟩
  go_wp2_with fail
  refine (set_at w.heap.size (w.heap.size + 1) lb cb b (.slice a la ca) _ ?_ ?_ ?_).mono ?_
  · simp [go_sem]
  · simp [go_sem]
  · simp [go_sem]
  rintro e w1 ⟨rfl, rfl⟩
  go_wp2_with fail
  refine (list_at w.heap.size (w.heap.size + 1) lb cb b _ ?_ ?_).mono ?_
  · simp [go_sem]
  · simp [go_sem]
  rintro e w1 ⟨rfl, rfl⟩
  go_wp2_with fail
  have hb : Below w.heap.size w ((((w.alloc (Obj.cells #[Value.int IntKind.u64 0, Value.slice none 0 0, Value.slice none 0 0, Value.pointer (some { block := w.heap.size + 1, off := 0 }), Value.bool false, Value.int IntKind.i32 0] 28)).alloc
            (Obj.cells #[Value.slice a la ca, Value.slice none 0 0] 31)).drewN m1).setCell { block := w.heap.size + 1, off := 0 } (Value.slice b lb cb)) :=
    (below_drewN ((((Below.refl _ _).alloc (Nat.le_refl _) _).alloc (by simp) _)) _).setCell (by simp) _
  refine (same_same b lb cb _ (hB.below hb) h2).mono ?_
  rintro e w1 ⟨rfl, m2, rfl⟩
  go_wp2_with fail
  refine (msgs_at w.heap.size (w.heap.size + 1) 0 0 none _ ?_ ?_).mono ?_
  · simp [go_sem]
  · simp [go_sem]
  rintro e w1 ⟨rfl, rfl⟩
  go_wp2
  go_ret
  exact ⟨rfl, below_drewN hb _⟩

end Go.Proofs.Ybulkaspg
