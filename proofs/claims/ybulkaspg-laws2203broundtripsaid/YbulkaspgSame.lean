import Derived.Test.YbulkaspgRows
import Derived.WalkKit
import Derived.WalkSpells
import Derived.WalkLawsBesides
import Derived.Laws.BytesArg
import Derived.Deep.QuietTactic
import Derived.BigQuiet
import Derived.Below
namespace Go.Proofs.Ybulkaspg
open Go.RowKit

/-- How an inner '[]byte' lies: where it has a byte, at an address with its cells. -/
def ByteRow (w : World) (p : Option Addr) (n : Nat) : Prop :=
  0 < n → ∃ b o, p = some ⟨b, o, none⟩ ∧ ∃ xs : List Int, xs.length = n ∧ ∀ i, i < n → w.cell? ⟨b, o + i, none⟩ = some (.int .u8 (xs.getD i 0))

/-- How a '[][]byte' lies. -/
def RowsIn (w : World) (a : Option Addr) (len : Nat) : Prop :=
  0 < len → ∃ b o, a = some ⟨b, o, none⟩ ∧ ∀ r, r < len → ∃ A L C, w.cell? ⟨b, o + r, none⟩ = some (.slice A L C) ∧ ByteRow w A L

theorem ByteRow.later {w w' : World} (h : ∀ p v, w.cell? p = some v → w'.cell? p = some v) {p : Option Addr} {n : Nat} (hr : ByteRow w p n) : ByteRow w' p n := fun hn => by
  obtain ⟨b, o, e, xs, hx, hc⟩ := hr hn
  exact ⟨b, o, e, xs, hx, fun i hi => h _ _ (hc i hi)⟩

theorem RowsIn.later {w w' : World} (h : ∀ p v, w.cell? p = some v → w'.cell? p = some v) {p : Option Addr} {n : Nat} (hr : RowsIn w p n) : RowsIn w' p n := fun hn => by
  obtain ⟨b, o, e, hc⟩ := hr hn
  exact ⟨b, o, e, fun i hi => by obtain ⟨A, L, C, h1, h2⟩ := hc i hi; exact ⟨A, L, C, h _ _ h1, h2.later h⟩⟩

theorem ByteRow.convert {w : World} {p : Option Addr} {n : Nat} (h : ByteRow w p n) (c : Nat) : ∃ s, (convert 25 9 (.slice p n c)).run Yba.prog w = .ok (.string s) w := by
  rcases Nat.eq_zero_or_pos n with hn | hn
  · subst hn
    refine ⟨ByteArray.empty, ?_⟩
    rw [run_convert_bytes_string w 25 9 5 _ 0 c Yba.underlying25 Yba.underlying5 Yba.underlying9]
    cases p <;> simp [Conv.bytesToString, loadCells]
    all_goals rfl
  · obtain ⟨b, o, rfl, xs, hx, hc⟩ := h hn
    exact ⟨_, run_convert_bytes_arg (P := Yba.prog) w 25 5 Yba.underlying25 Yba.underlying5 b o n c xs hx hc 9 Yba.underlying9⟩

theorem equal_same (p : Option Addr) (n c : Nat) (w : World) (h : ByteRow w p n) :
    Calls Yba.prog 9 #[.slice p n c, .slice p n c] w fun e w' => e = .returned (.bool true) ∧ w' = w := by
  obtain ⟨s, hs⟩ := h.convert c
  go_enter Yba.func9, Yba.ntmps9
  go_wp2
  go_ret
  exact ⟨rfl, rfl⟩

set_option maxHeartbeats 400000 in
theorem same_same (a : Option Addr) (len cap : Nat) (w : World) (hr : RowsIn w a len) (hlen : len ≤ 1024) :
    Calls Yba.prog 6 #[.slice a len cap, .slice a len cap] w fun e w' => e = .returned (.bool true) ∧ ∃ m, w' = w.drewN m := by
  have q22 : ∀ (w : World) (a : Option Addr) (n c n' c' : Nat), (binOp .eql 22 (.slice a n c) (.slice none n' c')).run Yba.prog w = .ok (.bool a.isNone) w := fun w a n c n' c' => Lib.run_eql_slice_nil w _ _ a n c n' c' Yba.underlying22
  go_enter Yba.func6, Yba.ntmps6
  go_wp2
  go_loopw [20] (fun i wr => ∃ k m : Nat, k ≤ len ∧ i = .int .i64 k ∧ wr = w.drewN m) (fun i _ => len - (intOf i).toNat)
  case atStart => exact ⟨0, 0, Nat.zero_le _, rfl, rfl⟩
  case round =>
    obtain ⟨k, m, hk, rfl, hw⟩ := hrel
    have hold : ∀ p v, w.cell? p = some v → wr.cell? p = some v := fun p v h => by rw [hw]; simpa using h
    have HW : Hid (wr = w.drewN m) := hw
    clear hw
    by_cases hlt : k < len
    · obtain ⟨b, o, rfl, hc⟩ := hr (by omega)
      obtain ⟨A, L, C, h1, h2⟩ := hc k hlt
      have h1' := hold _ _ h1
      have h2' := h2.later hold
      clear hold h1 h2 hc hr
      go_wp2
      go_quiet ((go_at_call 9; refine Calls.quiet_of_same (equal_same _ _ _ _ ?_); exact h2'.later (fun p v h => by simpa using h)))
      go_wp2
      go_roundw
      case rel => exact ⟨k + 1, m + nq, by omega, by go_num, by rw [HW.out, World.drewN_drewN]⟩
      case measure => simp [intOf]; omega
    · go_wp2
      go_ret
      exact ⟨rfl, m, HW.out⟩
end Go.Proofs.Ybulkaspg
