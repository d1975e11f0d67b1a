import Derived.Test.YbulkaspgLast
import Derived.Lib.Builder
namespace Go.Proofs.Ybulkaspg
open Go.RowKit

theorem walkRound_big (a b : Option Addr) (la ca lb cb : Nat) (hm st : Bool) (n num ix : Int) (w : World) (h : 1024 < la ∨ 1024 < lb) :
    Calls Yba.prog 3 #[.slice a la ca, .bool hm, .slice b lb cb, .int .u8 n, .int .u64 num, .bool st, .int .i32 ix] w fun e w' => e = .returned (.bool true) ∧ Below w.heap.size w w' := by
  by_cases h1 : 1024 < la
  · go_enter Yba.func3, Yba.ntmps3
    go_wp2
    go_ret
    exact ⟨rfl, Below.refl _ _⟩
  · have h2 : 1024 < lb := by omega
    go_enter Yba.func3, Yba.ntmps3
    go_wp2
    go_ret
    exact ⟨rfl, Below.refl _ _⟩

theorem make_msgs : ∀ k : Nat, k < 8 → ∃ cs : Array Value, ∀ w : World, (Instr.makeSlice 29 (.int .i64 k) (.int .i64 k)).run Yba.prog w = .ok (.slice (some ⟨w.heap.size, 0, none⟩) k k) (w.alloc (.cells cs 59))
  | 0, _ => ⟨(List.replicate 0 [Value.pointer none, Value.slice none 0 0, Value.slice none 0 0]).flatten.toArray, fun _ => by kernel_rfl⟩
  | 1, _ => ⟨(List.replicate 1 [Value.pointer none, Value.slice none 0 0, Value.slice none 0 0]).flatten.toArray, fun _ => by kernel_rfl⟩
  | 2, _ => ⟨(List.replicate 2 [Value.pointer none, Value.slice none 0 0, Value.slice none 0 0]).flatten.toArray, fun _ => by kernel_rfl⟩
  | 3, _ => ⟨(List.replicate 3 [Value.pointer none, Value.slice none 0 0, Value.slice none 0 0]).flatten.toArray, fun _ => by kernel_rfl⟩
  | 4, _ => ⟨(List.replicate 4 [Value.pointer none, Value.slice none 0 0, Value.slice none 0 0]).flatten.toArray, fun _ => by kernel_rfl⟩
  | 5, _ => ⟨(List.replicate 5 [Value.pointer none, Value.slice none 0 0, Value.slice none 0 0]).flatten.toArray, fun _ => by kernel_rfl⟩
  | 6, _ => ⟨(List.replicate 6 [Value.pointer none, Value.slice none 0 0, Value.slice none 0 0]).flatten.toArray, fun _ => by kernel_rfl⟩
  | 7, _ => ⟨(List.replicate 7 [Value.pointer none, Value.slice none 0 0, Value.slice none 0 0]).flatten.toArray, fun _ => by kernel_rfl⟩

theorem has31 : (Yba.prog.info? 31).isSome = true := by kernel_rfl
theorem q26 (a : Addr) (w : World) : (binOp .neq 26 (.pointer (some a)) (.pointer (some a))).run Yba.prog w = .ok (.bool false) w := by
  obtain ⟨j, hj⟩ := Option.isSome_iff_exists.1 has31
  exact Lib.run_neq_ptr_same w a Yba.underlying26 hj
theorem q24 (w : World) (a : Option Addr) (n c n' c' : Nat) : (binOp .eql 24 (.slice a n c) (.slice none n' c')).run Yba.prog w = .ok (.bool a.isNone) w := Lib.run_eql_slice_nil w _ _ a n c n' c' Yba.underlying24
theorem q25 (w : World) (a : Option Addr) (n c n' c' : Nat) : (binOp .eql 25 (.slice a n c) (.slice none n' c')).run Yba.prog w = .ok (.bool a.isNone) w := Lib.run_eql_slice_nil w _ _ a n c n' c' Yba.underlying25

set_option maxHeartbeats 1000000 in
theorem walkRound_t (a b : Option Addr) (la ca lb cb : Nat) (st : Bool) (n num ix : Int) (hn : 0 ≤ n) (hn' : n ≤ 255) (w : World) (h1 : la ≤ 1024) (h2 : lb ≤ 1024) (hA : RowsIn w a la) :
    Calls Yba.prog 3 #[.slice a la ca, .bool true, .slice b lb cb, .int .u8 n, .int .u64 num, .bool st, .int .i32 ix] w fun e w' => e = .returned (.bool true) ∧ Below w.heap.size w w' := by
  have g26 := q26
  have g24 := q24
  have g25 := q25
  obtain ⟨K, hK8, hK⟩ : ∃ K : Nat, K < 8 ∧ n % 8 = (K : Int) := ⟨(n % 8).toNat, by omega, by omega⟩
  obtain ⟨cs, hmk⟩ := make_msgs K hK8
  go_enter Yba.func3, Yba.ntmps3
  go_wp2_with fail
  refine (set_at w.heap.size (w.heap.size + 1 + 1) la ca a (.slice b lb cb) _ ?_ ?_ ?_).mono ?_
  · simp [go_sem]
  · simp [go_sem]
  · simp [go_sem]
  rintro e w1 ⟨rfl, rfl⟩
  go_wp2_with fail
  refine (list_at w.heap.size (w.heap.size + 1 + 1) la ca a _ ?_ ?_).mono ?_
  · simp [go_sem]
  · simp [go_sem]
  rintro e w1 ⟨rfl, rfl⟩
  go_wp2_with fail
  refine (same_same a la ca _ ?_ h1).mono ?_
  · exact hA.below (((((Below.refl _ _).alloc (Nat.le_refl _) _).alloc (by simp) _).alloc (by simp; omega) _))
  rintro e w1 ⟨rfl, m1, rfl⟩
  go_wp2_with fail
  refine (msgs_at w.heap.size (w.heap.size + 1 + 1) K K (some ⟨w.heap.size + 1, 0, none⟩) _ ?_ ?_).mono ?_
  · simp [go_sem]
  · simp [go_sem]
  rintro e w1 ⟨rfl, rfl⟩
  go_wp2
  go_ret
  exact ⟨rfl, below_drewN (((((Below.refl _ _).alloc (Nat.le_refl _) _).alloc (by simp) _).alloc (by simp; omega) _)) _⟩

set_option maxHeartbeats 1000000 in
theorem walkRound_f (a b : Option Addr) (la ca lb cb : Nat) (st : Bool) (n num ix : Int) (hn : 0 ≤ n) (hn' : n ≤ 255) (w : World) (h1 : la ≤ 1024) (h2 : lb ≤ 1024) (hA : RowsIn w a la) :
    Calls Yba.prog 3 #[.slice a la ca, .bool false, .slice b lb cb, .int .u8 n, .int .u64 num, .bool st, .int .i32 ix] w fun e w' => e = .returned (.bool true) ∧ Below w.heap.size w w' := by
  have g26 := q26
  have g24 := q24
  have g25 := q25
  obtain ⟨K, hK8, hK⟩ : ∃ K : Nat, K < 8 ∧ n % 8 = (K : Int) := ⟨(n % 8).toNat, by omega, by omega⟩
  go_enter Yba.func3, Yba.ntmps3
  go_wp2_with fail
  refine (set_new w.heap.size la ca a _ ?_ ?_ ?_).mono ?_
  · simp [go_sem]
  · simp [go_sem]
  · simp [go_sem]
  rintro e w1 ⟨rfl, rfl⟩
  go_wp2_with fail
  refine (list_at w.heap.size (w.heap.size + 1) la ca a _ ?_ ?_).mono ?_
  · simp [go_sem]
  · simp [go_sem]
  rintro e w1 ⟨rfl, rfl⟩
  go_wp2_with fail
  refine (same_same a la ca _ ?_ h1).mono ?_
  · exact hA.below ((((Below.refl _ _).alloc (Nat.le_refl _) _).alloc (by simp) _))
  rintro e w1 ⟨rfl, m1, rfl⟩
  go_wp2_with fail
  refine (msgs_at w.heap.size (w.heap.size + 1) 0 0 none _ ?_ ?_).mono ?_
  · simp [go_sem]
  · simp [go_sem]
  rintro e w1 ⟨rfl, rfl⟩
  go_wp2
  go_ret
  exact ⟨rfl, below_drewN ((((Below.refl _ _).alloc (Nat.le_refl _) _).alloc (by simp) _)) _⟩

end Go.Proofs.Ybulkaspg
