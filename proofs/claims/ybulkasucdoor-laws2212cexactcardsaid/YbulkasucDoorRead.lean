import Derived.Test.YbulkasucDoorTake
namespace Go.Proofs.YbulkasucDoor
open Go.RowKit
set_option linter.unusedVariables false

/-- Where 'data[k:]' begins. -/
def rest (b o c k : Nat) : Option Addr := if c = k then some ⟨b, o, none⟩ else some ⟨b, o + k, none⟩
theorem rest_some (b o c k : Nat) : ∃ x, rest b o c k = some x := by unfold rest; split <;> exact ⟨_, rfl⟩
theorem rest_pos {b o c k : Nat} (h : c ≠ k) : rest b o c k = some ⟨b, o + k, none⟩ := by simp [rest, h]

set_option maxHeartbeats 400000 in
theorem uint64_err (R T : Nat) (v x : Value) (w : World) (h : ReaderAt R w v (.iface T x)) :
    Calls Ybad.prog 6 #[.pointer (some ⟨R, 0, none⟩)] w fun e w' => e = .returned (.int .u64 0) ∧ w' = w := by
  go_enter Ybad.func6, Ybad.ntmps6
  go_wp2_with fail
  refine (take_err R 8 T x _ h.err).mono ?_
  rintro e w1 ⟨rfl, rfl⟩
  go_wp2
  go_ret
  exact ⟨rfl, rfl⟩

set_option maxHeartbeats 400000 in
theorem uint64_short (R m c T : Nat) (a : Option Addr) (E : Addr) (w : World) (h : ReaderAt R w (.slice a m c) .nilIface) (hE : w.cell? ⟨0, 0, none⟩ = some (.iface T (.pointer (some E)))) (hR : 0 < R) (hm : m < 8) :
    Calls Ybad.prog 6 #[.pointer (some ⟨R, 0, none⟩)] w fun e w' => e = .returned (.int .u64 0) ∧ ReaderAt R w' (.slice none 0 0) (.iface T (.pointer (some E))) ∧ KeptE R w.heap.size w w' := by
  go_enter Ybad.func6, Ybad.ntmps6
  go_wp2_with fail
  refine (take_short R 8 m c a T E _ h.data h.err hE h.thaw0 h.thaw1 hR hm (by omega)).mono ?_
  rintro e w1 ⟨rfl, rfl⟩
  go_wp2
  go_ret
  exact ⟨rfl, (h.set0 _).set1 _, ((KeptE.refl _ _ _).setCell 0 _).setCell 1 _⟩

set_option maxHeartbeats 400000 in
theorem uint64_ok (R m c b o : Nat) (f : Nat → Int) (w : World) (h : ReaderAt R w (.slice (some ⟨b, o, none⟩) m c) .nilIface) (hm : 8 ≤ m) (hmc : m ≤ c) (hcm : c ≤ 1024) (hbR : b ≠ R)
    (hc : ∀ i, i < m → w.cell? ⟨b, o + i, none⟩ = some (.int .u8 (f i))) (hf : ∀ i, i < m → 0 ≤ f i ∧ f i ≤ 255) :
    Calls Ybad.prog 6 #[.pointer (some ⟨R, 0, none⟩)] w fun e w' => e = .returned (.int .u64 (be8 (f 0) (f 1) (f 2) (f 3) (f 4) (f 5) (f 6) (f 7))) ∧
      ReaderAt R w' (.slice (rest b o c 8) (m - 8) (c - 8)) .nilIface ∧ KeptE R w.heap.size w w' := by
  have c0 := hc 0 (by omega)
  have c1 := hc 1 (by omega)
  have c2 := hc 2 (by omega)
  have c3 := hc 3 (by omega)
  have c4 := hc 4 (by omega)
  have c5 := hc 5 (by omega)
  have c6 := hc 6 (by omega)
  have c7 := hc 7 (by omega)
  have hlt : b < w.heap.size := World.block_lt_of_cell? _ _ c0
  go_enter Ybad.func6, Ybad.ntmps6
  go_wp2_with fail
  refine (take_ok R 8 m c b o _ h.data h.err h.thaw0 (by omega) hm hmc (by omega) hcm).mono ?_
  rintro e w1 ⟨rfl, hw1⟩
  have hr : ReaderAt R w1 (.slice (rest b o c 8) (m - 8) (c - 8)) .nilIface := by rw [hw1]; exact h.set0 _
  have hk : KeptE R w.heap.size w w1 := by rw [hw1]; exact (KeptE.refl _ _ _).setCell 0 _
  have HR : Hid (ReaderAt R w1 (.slice (rest b o c 8) (m - 8) (c - 8)) .nilIface) := hr
  clear hr hw1
  have d0 := (hk.cell (p := ⟨b, o + 0, none⟩) hlt hbR).trans c0
  have d1 := (hk.cell (p := ⟨b, o + 1, none⟩) hlt hbR).trans c1
  have d2 := (hk.cell (p := ⟨b, o + 2, none⟩) hlt hbR).trans c2
  have d3 := (hk.cell (p := ⟨b, o + 3, none⟩) hlt hbR).trans c3
  have d4 := (hk.cell (p := ⟨b, o + 4, none⟩) hlt hbR).trans c4
  have d5 := (hk.cell (p := ⟨b, o + 5, none⟩) hlt hbR).trans c5
  have d6 := (hk.cell (p := ⟨b, o + 6, none⟩) hlt hbR).trans c6
  have d7 := (hk.cell (p := ⟨b, o + 7, none⟩) hlt hbR).trans c7
  clear c0 c1 c2 c3 c4 c5 c6 c7 hc
  go_wp2_with fail
  refine (uint64_at b o 8 8 (f 0) (f 1) (f 2) (f 3) (f 4) (f 5) (f 6) (f 7) _ (by omega) (hf 0 (by omega)) (hf 1 (by omega)) (hf 2 (by omega)) (hf 3 (by omega)) (hf 4 (by omega)) (hf 5 (by omega)) (hf 6 (by omega)) (hf 7 (by omega)) d0 d1 d2 d3 d4 d5 d6 d7).mono ?_
  rintro e w2 ⟨rfl, hb⟩
  go_wp2
  go_ret
  exact ⟨rfl, HR.out.below hb, hk.trans (KeptE.of_below (hb.mono hk.size))⟩

set_option maxHeartbeats 400000 in
theorem uint32_err (R T : Nat) (v x : Value) (w : World) (h : ReaderAt R w v (.iface T x)) :
    Calls Ybad.prog 9 #[.pointer (some ⟨R, 0, none⟩)] w fun e w' => e = .returned (.int .u32 0) ∧ w' = w := by
  go_enter Ybad.func9, Ybad.ntmps9
  go_wp2_with fail
  refine (take_err R 4 T x _ h.err).mono ?_
  rintro e w1 ⟨rfl, rfl⟩
  go_wp2
  go_ret
  exact ⟨rfl, rfl⟩

set_option maxHeartbeats 400000 in
theorem uint32_short (R m c T : Nat) (a : Option Addr) (E : Addr) (w : World) (h : ReaderAt R w (.slice a m c) .nilIface) (hE : w.cell? ⟨0, 0, none⟩ = some (.iface T (.pointer (some E)))) (hR : 0 < R) (hm : m < 4) :
    Calls Ybad.prog 9 #[.pointer (some ⟨R, 0, none⟩)] w fun e w' => e = .returned (.int .u32 0) ∧ ReaderAt R w' (.slice none 0 0) (.iface T (.pointer (some E))) ∧ KeptE R w.heap.size w w' := by
  go_enter Ybad.func9, Ybad.ntmps9
  go_wp2_with fail
  refine (take_short R 4 m c a T E _ h.data h.err hE h.thaw0 h.thaw1 hR hm (by omega)).mono ?_
  rintro e w1 ⟨rfl, rfl⟩
  go_wp2
  go_ret
  exact ⟨rfl, (h.set0 _).set1 _, ((KeptE.refl _ _ _).setCell 0 _).setCell 1 _⟩

set_option maxHeartbeats 400000 in
theorem uint32_ok (R m c b o : Nat) (f : Nat → Int) (w : World) (h : ReaderAt R w (.slice (some ⟨b, o, none⟩) m c) .nilIface) (hm : 4 ≤ m) (hmc : m ≤ c) (hcm : c ≤ 1024) (hbR : b ≠ R)
    (hc : ∀ i, i < m → w.cell? ⟨b, o + i, none⟩ = some (.int .u8 (f i))) (hf : ∀ i, i < m → 0 ≤ f i ∧ f i ≤ 255) :
    Calls Ybad.prog 9 #[.pointer (some ⟨R, 0, none⟩)] w fun e w' => e = .returned (.int .u32 (be4 (f 0) (f 1) (f 2) (f 3))) ∧
      ReaderAt R w' (.slice (rest b o c 4) (m - 4) (c - 4)) .nilIface ∧ KeptE R w.heap.size w w' := by
  have c0 := hc 0 (by omega)
  have c1 := hc 1 (by omega)
  have c2 := hc 2 (by omega)
  have c3 := hc 3 (by omega)
  have hlt : b < w.heap.size := World.block_lt_of_cell? _ _ c0
  go_enter Ybad.func9, Ybad.ntmps9
  go_wp2_with fail
  refine (take_ok R 4 m c b o _ h.data h.err h.thaw0 (by omega) hm hmc (by omega) hcm).mono ?_
  rintro e w1 ⟨rfl, hw1⟩
  have hr : ReaderAt R w1 (.slice (rest b o c 4) (m - 4) (c - 4)) .nilIface := by rw [hw1]; exact h.set0 _
  have hk : KeptE R w.heap.size w w1 := by rw [hw1]; exact (KeptE.refl _ _ _).setCell 0 _
  have HR : Hid (ReaderAt R w1 (.slice (rest b o c 4) (m - 4) (c - 4)) .nilIface) := hr
  clear hr hw1
  have d0 := (hk.cell (p := ⟨b, o + 0, none⟩) hlt hbR).trans c0
  have d1 := (hk.cell (p := ⟨b, o + 1, none⟩) hlt hbR).trans c1
  have d2 := (hk.cell (p := ⟨b, o + 2, none⟩) hlt hbR).trans c2
  have d3 := (hk.cell (p := ⟨b, o + 3, none⟩) hlt hbR).trans c3
  clear c0 c1 c2 c3 hc
  go_wp2_with fail
  refine (uint32_at b o 4 4 (f 0) (f 1) (f 2) (f 3) _ (by omega) (hf 0 (by omega)) (hf 1 (by omega)) (hf 2 (by omega)) (hf 3 (by omega)) d0 d1 d2 d3).mono ?_
  rintro e w2 ⟨rfl, hb⟩
  go_wp2
  go_ret
  exact ⟨rfl, HR.out.below hb, hk.trans (KeptE.of_below (hb.mono hk.size))⟩
end Go.Proofs.YbulkasucDoor
