import Derived.Test.YbulkasucDoorBe
namespace Go.Proofs.YbulkasucDoor
open Go.RowKit

theorem Ybad.info5 : (Ybad.prog.info? 5).map (fun i => (i.zero, i.size, i.bytes)) = some (some (.int .u8 0), 1, 1) := by kernel_rfl

theorem q22 (w : World) (a : Option Addr) (n c n' c' : Nat) : (binOp .eql 22 (.slice a n c) (.slice none n' c')).run Ybad.prog w = .ok (.bool a.isNone) w := Lib.run_eql_slice_nil w _ _ a n c n' c' Ybad.underlying22

/-- How a '[]byte' lies: where it has a byte, at an address with its cells. -/
def BytesAt (w : World) (p : Option Addr) (n : Nat) (f : Nat → Int) : Prop :=
  0 < n → ∃ b o, p = some ⟨b, o, none⟩ ∧ ∀ i, i < n → w.cell? ⟨b, o + i, none⟩ = some (.int .u8 (f i))

theorem BytesAt.later {w w' : World} (h : ∀ p v, w.cell? p = some v → w'.cell? p = some v) {p : Option Addr} {n : Nat} {f : Nat → Int} (hr : BytesAt w p n f) : BytesAt w' p n f := fun hn => by
  obtain ⟨b, o, e, hc⟩ := hr hn
  exact ⟨b, o, e, fun i hi => h _ _ (hc i hi)⟩

theorem BytesAt.below {w w' : World} {p : Option Addr} {n : Nat} {f : Nat → Int} (hr : BytesAt w p n f) (hb : Below w.heap.size w w') : BytesAt w' p n f :=
  hr.later fun _ _ h => cell_later hb h

set_option maxHeartbeats 400000 in
theorem eqb_true (p q : Option Addr) (n c d : Nat) (f : Nat → Int) (w : World) (h1 : BytesAt w p n f) (h2 : BytesAt w q n f) (hn : n ≤ 1024) :
    Calls Ybad.prog 7 #[.slice p n c, .slice q n d] w fun e w' => e = .returned (.bool true) ∧ ∃ m, w' = w.drewN m := by
  go_enter Ybad.func7, Ybad.ntmps7
  go_wp2
  go_loopw [5] (fun i wr => ∃ k m : Nat, k ≤ n ∧ i = .int .i64 k ∧ wr = w.drewN m) (fun i _ => n - (intOf i).toNat)
  case atStart => exact ⟨0, 0, Nat.zero_le _, rfl, rfl⟩
  case round =>
    obtain ⟨k, m, hk, rfl, hw⟩ := hrel
    have hold : ∀ p v, w.cell? p = some v → wr.cell? p = some v := fun p v h => by rw [hw]; simpa using h
    have HW : Hid (wr = w.drewN m) := hw
    clear hw
    by_cases hlt : k < n
    · obtain ⟨b, o, rfl, hc⟩ := h1 (by omega)
      obtain ⟨b', o', rfl, hc'⟩ := h2 (by omega)
      have h1' := hold _ _ (hc k hlt)
      have h2' := hold _ _ (hc' k hlt)
      clear hold hc hc' h1 h2
      go_wp2
      go_quiet (fail)
      go_wp2
      go_roundw
      case rel => exact ⟨k + 1, m + nq, by omega, by go_num, by rw [HW.out, World.drewN_drewN]⟩
      case measure => simp [intOf]; omega
    · go_wp2
      go_ret
      exact ⟨rfl, m, HW.out⟩

theorem copy_nil (w : World) : Calls Ybad.prog 5 #[.slice none 0 0] w fun e w' => e = .returned (.slice none 0 0) ∧ w' = w := by
  have g22 := q22
  go_enter Ybad.func5, Ybad.ntmps5
  go_wp2
  go_ret
  exact ⟨rfl, rfl⟩

set_option maxHeartbeats 400000 in
theorem copy_some (x : Addr) (n c : Nat) (f : Nat → Int) (w : World) (h : BytesAt w (some x) n f) (hn : n ≤ 1024) :
    Calls Ybad.prog 5 #[.slice (some x) n c] w fun e w' => e = .returned (.slice (some ⟨w.heap.size, 0, none⟩) n n) ∧
      w'.rowIs w.heap.size 5 n (fun i => .int .u8 (f i)) ∧ Below w.heap.size w w' ∧ w'.heap.size = w.heap.size + 1 := by
  have g22 := q22
  have hmk := run_make_row' (P := Ybad.prog) 22 5 (.int .u8 0) 1 Ybad.underlying22 Ybad.info5 rfl .i64 .i64 n (by omega) (by omega)
  go_enter Ybad.func5, Ybad.ntmps5
  go_wp2
  go_loopw [4] (fun i wr => ∃ k : Nat, k ≤ n ∧ i = .int .i64 k ∧ wr.rowIs w.heap.size 5 n (fun j => .int .u8 (if j < k then f j else 0)) ∧ Below w.heap.size w wr ∧ wr.heap.size = w.heap.size + 1) (fun i _ => n - (intOf i).toNat)
  case atStart => exact ⟨0, Nat.zero_le _, rfl, by simpa using World.rowIs_made w (.int .u8 0) n 5, (Below.refl _ _).alloc (Nat.le_refl _) _, by simp⟩
  case round =>
    obtain ⟨k, hk, rfl, hrow, hb, hs⟩ := hrel
    by_cases hlt : k < n
    · obtain ⟨b, o, hx, hc⟩ := h (by omega)
      obtain rfl := Option.some.inj hx
      have h1 := cell_later hb (hc k hlt)
      have h2 := hrow.cell hlt
      have h3 := hrow.frozen k
      clear g22 hmk
      go_wp2
      go_roundw
      case rel =>
        refine ⟨k + 1, by omega, by go_num, ?_, hb.setCell (Nat.le_refl _) _, by simpa using hs⟩
        refine (hrow.set k (.int .u8 (f k))).congr fun i hi => ?_
        by_cases e : i = k
        · subst e; simp
        · have : (i < k + 1) = (i < k) := by simp; omega
          simp [e, this]
      case measure => simp [intOf]; omega
    · have : k = n := by omega
      subst this
      go_wp2
      go_ret
      exact ⟨rfl, hrow.congr fun i hi => by simp [hi], hb, hs⟩
end Go.Proofs.YbulkasucDoor
