import Derived.Test.YbulkasucDoorRead
namespace Go.Proofs.YbulkasucDoor
open Go.RowKit
set_option linter.unusedVariables false

/-- A copy, whatever the slice: nil of nil, else a row of its own. -/
theorem copy_any (p : Option Addr) (n c : Nat) (f : Nat → Int) (w : World) (h : BytesAt w p n f) (hp : p = none → n = 0 ∧ c = 0) (hn : n ≤ 1024) :
    Calls Ybad.prog 5 #[.slice p n c] w fun e w' => ∃ p', e = .returned (.slice p' n n) ∧ p'.isNone = p.isNone ∧ (∀ x, p' = some x → x = ⟨w.heap.size, 0, none⟩) ∧ BytesAt w' p' n f ∧ Below w.heap.size w w' := by
  cases p with
  | none =>
    obtain ⟨rfl, rfl⟩ := hp rfl
    refine (copy_nil w).mono ?_
    rintro e w' ⟨rfl, rfl⟩
    exact ⟨none, rfl, rfl, (fun x hx => by cases hx), (fun h => by omega), Below.refl _ _⟩
  | some x =>
    exact (copy_some x n c f w h hn).mono fun e w' ⟨he, hr, hb, hs⟩ => ⟨some ⟨w.heap.size, 0, none⟩, he, rfl, fun x hx => by cases hx; rfl,
      fun _ => ⟨_, _, rfl, fun i hi => by rw [Nat.zero_add]; exact hr.cell hi⟩, hb⟩

theorem has28 : ((Ybad.prog.info? 28).isSome && (Ybad.prog.info? 90).isSome && ((Ybad.prog.info? 26).map (·.comparable) == some true) && ((Ybad.prog.info? 61).map (·.comparable) == some true)) = true := by kernel_rfl

theorem eqPtr {tp te : TypeId} (hp : Ybad.prog.underlying tp = some (.pointer te)) (hc : (Ybad.prog.info? tp).map (·.comparable) = some true) (hs : (Ybad.prog.info? te).isSome = true) (a : Addr) (w : World) :
    (binOp .eql 25 (.iface tp (.pointer (some a))) (.iface tp (.pointer (some a)))).run Ybad.prog w = .ok (.bool true) w := by
  obtain ⟨i, hi, hic⟩ := Option.map_eq_some_iff.1 hc
  obtain ⟨j, hj⟩ := Option.isSome_iff_exists.1 hs
  exact run_eql_iface_ptr_same w a Ybad.underlying25 hp hi hic hj

theorem nePtr {tp te : TypeId} (hp : Ybad.prog.underlying tp = some (.pointer te)) (hc : (Ybad.prog.info? tp).map (·.comparable) = some true) (hs : (Ybad.prog.info? te).isSome = true) (a : Addr) (w : World) :
    (binOp .neq 25 (.iface tp (.pointer (some a))) (.iface tp (.pointer (some a)))).run Ybad.prog w = .ok (.bool false) w := by
  obtain ⟨i, hi, hic⟩ := Option.map_eq_some_iff.1 hc
  obtain ⟨j, hj⟩ := Option.isSome_iff_exists.1 hs
  simp only [binOp]
  simp [Op.equal, Op.maxDepth, run_equalIn_iface_ptr_same w 9998 a Ybad.underlying25 hp hi hic hj]

theorem c26 : (Ybad.prog.info? 26).map (·.comparable) = some true := by kernel_rfl
theorem c61 : (Ybad.prog.info? 61).map (·.comparable) = some true := by kernel_rfl
theorem s28 : (Ybad.prog.info? 28).isSome = true := by kernel_rfl
theorem s90 : (Ybad.prog.info? 90).isSome = true := by kernel_rfl
theorem eq26 (a : Addr) (w : World) : (binOp .eql 25 (.iface 26 (.pointer (some a))) (.iface 26 (.pointer (some a)))).run Ybad.prog w = .ok (.bool true) w := eqPtr Ybad.underlying26 c26 s28 a w
theorem eq61 (a : Addr) (w : World) : (binOp .eql 25 (.iface 61 (.pointer (some a))) (.iface 61 (.pointer (some a)))).run Ybad.prog w = .ok (.bool true) w := eqPtr Ybad.underlying61 c61 s90 a w
theorem ne26 (a : Addr) (w : World) : (binOp .neq 25 (.iface 26 (.pointer (some a))) (.iface 26 (.pointer (some a)))).run Ybad.prog w = .ok (.bool false) w := nePtr Ybad.underlying26 c26 s28 a w
theorem ne61 (a : Addr) (w : World) : (binOp .neq 25 (.iface 61 (.pointer (some a))) (.iface 61 (.pointer (some a)))).run Ybad.prog w = .ok (.bool false) w := nePtr Ybad.underlying61 c61 s90 a w

theorem reader_new (w : World) (v e : Value) : ReaderAt w.heap.size (w.alloc (.cells #[v, e] 31)) v e :=
  ⟨by simp [go_sem], by simp [go_sem], by simp [go_sem], by simp [go_sem], by simp⟩

theorem m25 : Ybad.prog.underlying 25 = some (.interface (Ybad.prog.methodsAt 25)) := by kernel_rfl
theorem neNil (w : World) : (binOp .neq 25 .nilIface .nilIface).run Ybad.prog w = .ok (.bool false) w := run_neq_nil_nil w 25 m25
theorem eqNil (w : World) : (binOp .eql 25 .nilIface .nilIface).run Ybad.prog w = .ok (.bool true) w := run_eql_nil_nil w 25 m25

theorem or00 : bits .or .u64 0 0 = 0 := by decide

end Go.Proofs.YbulkasucDoor
