import Derived.Test.YbulkasucDoorExact
namespace Go.Proofs.YbulkasucDoor
open Go.RowKit
set_option linter.unusedVariables false

/-- What the first 'k' bytes spell, the greatest first. -/
def pre (f : Nat → Int) : Nat → Int
  | 0 => 0
  | k + 1 => pre f k * 256 + f k

theorem pre_eight (f : Nat → Int) : pre f 8 = be8 (f 0) (f 1) (f 2) (f 3) (f 4) (f 5) (f 6) (f 7) := by
  simp only [pre, be8]; omega

theorem pre_bound (f : Nat → Int) : ∀ k, (∀ i, i < k → 0 ≤ f i ∧ f i ≤ 255) → 0 ≤ pre f k ∧ pre f k < 256 ^ k
  | 0, _ => by simp [pre]
  | k + 1, h => by
    have h1 := pre_bound f k fun i hi => h i (by omega)
    have h2 := h k (by omega)
    simp only [pre, Int.pow_succ]
    omega

theorem pre_step (f : Nat → Int) (k : Nat) (hk : k < 8) (h : ∀ i, i < k + 1 → 0 ≤ f i ∧ f i ≤ 255) :
    bits .or .u64 (IntKind.u64.wrap (pre f k * 256)) (IntKind.u64.wrap (f k)) = pre f (k + 1) := by
  have h1 := pre_bound f k fun i hi => h i (by omega)
  have h2 := h k (by omega)
  have h3 : (256 : Int) ^ k ≤ 72057594037927936 := by
    match k, hk with
    | 0, _ => decide
    | 1, _ => decide
    | 2, _ => decide
    | 3, _ => decide
    | 4, _ => decide
    | 5, _ => decide
    | 6, _ => decide
    | 7, _ => decide
  rw [u64_wrap_id _ (by omega) (by omega), u64_wrap_id _ (by omega) (by omega)]
  rw [bits_join .u64 64 (by decide) wraps_u64 8 (pre f k * 256) (f k) (by omega) (by omega) (by omega) (by omega) (by omega) (by omega)]
  rfl

set_option maxHeartbeats 1000000 in
theorem exact_ok (b0 o0 n c : Nat) (f : Nat → Int) (w : World) (hc : ∀ i, i < n → w.cell? ⟨b0, o0 + i, none⟩ = some (.int .u8 (f i))) (hf : ∀ i, i < n → 0 ≤ f i ∧ f i ≤ 255) (h8 : 8 ≤ n) (hnc : n ≤ c) (hn : n ≤ 1024) :
    Calls Ybad.prog 3 #[.slice (some ⟨b0, o0, none⟩) n c, .bool false] w fun e w' => e = .returned (.bool true) ∧ Below w.heap.size w w' := by
  go_enter Ybad.func3, Ybad.ntmps3
  go_wp2_with fail
  refine (copy_any (some ⟨b0, o0, none⟩) n c f _ (fun _ => ⟨b0, o0, rfl, hc⟩) (fun h => by cases h) hn).mono ?_
  rintro e w1 ⟨p1, rfl, i1, x1, b1, K1⟩
  have z1 : w.heap.size ≤ w1.heap.size := K1.size
  clear x1
  obtain ⟨b, o, rfl, hb⟩ := b1 (by omega)
  have hbw : b < w1.heap.size := World.block_lt_of_cell? _ _ (hb 0 (by omega))
  have ra := reader_new w1 (.slice (some ⟨b, o, none⟩) n n) .nilIface
  have K2 : Below w.heap.size w (w1.alloc (.cells #[.slice (some ⟨b, o, none⟩) n n, .nilIface] 31)) := K1.alloc z1 _
  have hb2 : ∀ i, i < n → (w1.alloc (.cells #[.slice (some ⟨b, o, none⟩) n n, .nilIface] 31)).cell? ⟨b, o + i, none⟩ = some (.int .u8 (f i)) := fun i hi => cell_later ((Below.refl _ _).alloc (Nat.le_refl _) _) (hb i hi)
  go_wp2_with fail
  refine (uint64_ok w1.heap.size n n b o f _ ra h8 (Nat.le_refl _) hn (by omega) hb2 hf).mono ?_
  rintro e w3 ⟨rfl, ra3, k3⟩
  have K3 := K2.trans (k3.below (D := w.heap.size) (by simp; omega) (by omega))
  have hb3 : ∀ i, i < n → w3.cell? ⟨b, o + i, none⟩ = some (.int .u8 (f i)) := fun i hi => (k3.cell (p := ⟨b, o + i, none⟩) (by simp; omega) (by simp; omega)).trans (hb2 i hi)
  have hc3 : ∀ i, i < n → w3.cell? ⟨b0, o0 + i, none⟩ = some (.int .u8 (f i)) := fun i hi => cell_later K3 (hc i hi)
  have y1 : BytesAt w3 (rest b o n 8) (n - 8) (fun i => f (8 + i)) := fun h => ⟨b, o + 8, rest_pos (by omega), fun i hi => by rw [Nat.add_assoc o 8 i]; exact hb3 (8 + i) (by omega)⟩
  have y2 : BytesAt w3 (if c = 8 then some ⟨b0, o0, none⟩ else some ⟨b0, o0 + 8, none⟩) (n - 8) (fun i => f (8 + i)) := fun h => ⟨b0, o0 + 8, by rw [if_neg (by omega)], fun i hi => by rw [Nat.add_assoc o0 8 i]; exact hc3 (8 + i) (by omega)⟩
  obtain ⟨A1, hA1⟩ := rest_some b o n 8
  rw [hA1] at ra3 y1
  clear ra k3 b1 hb hb2 hb3 hA1 hc
  have Y2 : Hid (BytesAt w3 (if c = 8 then some ⟨b0, o0, none⟩ else some ⟨b0, o0 + 8, none⟩) (n - 8) (fun i => f (8 + i))) := y2
  clear y2
  have d1 := ra3.data
  have e1 := ra3.err
  have gnil := eqNil
  go_wp2
  go_loop [9, 10] (fun v i => ∃ k : Nat, k ≤ 8 ∧ i = .int .i64 k ∧ v = .int .u64 (pre f k)) (fun _ i => 8 - (intOf i).toNat)
  case atStart => exact ⟨0, by omega, rfl, rfl⟩
  case round =>
    obtain ⟨k, hk, rfl, rfl⟩ := hrel
    by_cases hlt : k < 8
    · have hck := hc3 k (by omega)
      have hkn : (k : Int) < (n : Int) := by omega
      have ST : Hid (bits .or .u64 (IntKind.u64.wrap (pre f k * 256)) (IntKind.u64.wrap (f k)) = pre f (k + 1)) := pre_step f k hlt (fun i hi => hf i (by omega))
      clear hc3 y1 Y2
      go_wp2
      exact ⟨⟨k + 1, by omega, by go_num, by rw [ST.out]⟩, by simp [intOf]; omega⟩
    · obtain rfl : k = 8 := by omega
      have P8 := pre_eight f
      by_cases hc8 : c = 8
      · obtain rfl : n = 8 := by omega
        subst hc8
        clear Y2 hc3 y1
        go_wp2
        go_quiet ((go_at_call 7; refine Calls.quiet_of (eqb_true _ _ 0 _ _ f _ ?_ ?_ (by omega)); exact (fun h => absurd h (by omega)); exact (fun h => absurd h (by omega))))
        go_wp2
        go_ret
        exact ⟨rfl, below_drewN K3 _⟩
      · have y2 : BytesAt w3 (some ⟨b0, o0 + 8, none⟩) (n - 8) (fun i => f (8 + i)) := by have := Y2.out; rw [if_neg hc8] at this; exact this
        clear Y2 hc3
        go_wp2
        go_quiet ((go_at_call 7; refine Calls.quiet_of (eqb_true _ _ (n - 8) _ _ (fun i => f (8 + i)) _ ?_ ?_ (by omega)); exact y1.later (fun p v h => by simpa using h); exact y2.later (fun p v h => by simpa using h)))
        go_wp2
        go_ret
        exact ⟨rfl, below_drewN K3 _⟩
end Go.Proofs.YbulkasucDoor
