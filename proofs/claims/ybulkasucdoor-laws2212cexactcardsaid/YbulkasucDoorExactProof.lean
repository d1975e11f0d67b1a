import Derived.Test.YbulkasucDoorExact8
import Derived.ProofKit
import Derived.LaidMore
import Derived.OpenShut
import Derived.Stop.Joined
import Derived.Stop.LaidErr
import Derived.ChangeOld
namespace Go.Proofs.YbulkasucDoor.lawS2212CExact
open Go.ChangeShapes Go.WideShapes Go.ChangeAt Go.WideMaps Go.WideElems Go.RowKit
set_option linter.unusedVariables false

/-- The listed variable's name, and the name of the type of what it holds, out of the given rows. -/
abbrev vname : String := Rows.lawS2212CExactSpec.vars.headD ""
def tname : String := match (Rows.laid_example_com_findtree_findtree_internal_reload_errTruncated (H := Unit)) with
  | .iface s _ => s
  | _ => ""
abbrev laid1 : List (String × DataW Unit) := Rows.lawS2212CExactRow.laid
theorem own : ownKnob Ybad.prog.godebug = none := by kernel_rfl
theorem laidOut : laidOutB Ybad.prog = true := by kernel_rfl
theorem gE : Ybad.prog.globalNamed vname = some 0 := by kernel_rfl
theorem gEType : (Ybad.prog.globals[0]?).map (·.type) = some 25 := by kernel_rfl
theorem cells90 : Ybad.prog.cellsOf 90 = 1 := by kernel_rfl
theorem cells9 : Ybad.prog.cellsOf 9 = 1 := by kernel_rfl
theorem row61 (u : TypeId) (h : Ybad.prog.typeName? 3 u = some tname) : u = 61 :=
  typeName_ptr_named (nm := "errors.errorString") (by kernel_rfl) (by kernel_rfl) (by decide) u (by rw [h]; kernel_rfl)

theorem door_met (os : Os) (args : Array Value) : laidMetH Ybad.prog laid1 ((World.doorLaid Ybad.prog 400 os).forCall (fun _ _ => 0) ⟨#[], args, []⟩).memory :=
  laidMetH_of_parts3 (fuel := 8) (laidMet_of_run' 8 (by kernel_rfl) (by kernel_rfl)) (by kernel_rfl) (by kernel_rfl)

theorem var_below {P : Program} {n : String} {g : Nat} {w w' : World} (h : Below w.heap.size w w') (hg : P.globalNamed n = some g) (hB : g < w.heap.size) : w'.var? P n = w.var? P n := by
  simp only [World.var?, hg, Option.bind_some, h.block g hB]

theorem of_laid {W : World} (h : laidMetH Ybad.prog laid1 W) : ∃ a : Addr, W.var? Ybad.prog vname = some #[.iface 61 (.pointer (some a))] := by
  rw [MakeChecks.laidMetH_plain _ _ _ (by kernel_rfl)] at h
  obtain ⟨a, s, hv, _⟩ := laid_sentinel h gE gEType Ybad.underlying25 row61 Ybad.underlying61 Ybad.underlying90 rfl rfl Ybad.underlying9 cells90 cells9
  exact ⟨a, hv⟩

theorem cells5 : Ybad.prog.cellsOf 5 = 1 := by kernel_rfl

theorem opened {H : Type} {enc : TypeId × Value → H} {W : World} {a0 : Option Addr} {len cap : Nat} {d0 : DataW H} {p : List MemPlace}
    (h0 : DataW.Trod enc Ybad.prog W 0 (fun _ => true) true 22 (.slice a0 len cap) d0 p) :
    ∃ f : Nat → Int, BytesAt W a0 len f ∧ (∀ i, i < len → 0 ≤ f i ∧ f i ≤ 255) ∧ (a0 = none → len = 0 ∧ cap = 0) ∧ len ≤ cap := by
  obtain ⟨fuel, hf⟩ := h0
  rcases open_ints Ybad.underlying22 Ybad.underlying5 cells5 hf with ⟨hcs, _⟩ | ⟨a, len', cap', zs, hcs, _, hl, _, hz, _, hcell, hwz⟩
  · simp [Value.cells] at hcs
    obtain ⟨rfl, rfl, rfl⟩ := hcs
    exact ⟨fun _ => 0, (fun h => by omega), (fun i hi => by omega), (fun _ => ⟨rfl, rfl⟩), Nat.le_refl _⟩
  · simp [Value.cells] at hcs
    obtain ⟨rfl, rfl, rfl⟩ := hcs
    simp only [if_true] at hz
    refine ⟨fun i => zs.getD i 0, fun hn => ?_, fun i hi => ?_, (fun h => by cases h), hl⟩
    · obtain ⟨b, o, s⟩ := a
      obtain rfl : s = none := by simpa [Addr.add] using World.cell?_spot (hcell 0 (by omega))
      exact ⟨b, o, rfl, fun i hi => by rw [← add_plain]; exact hcell i (by omega)⟩
    · have hlt : i < zs.length := by omega
      have := bounds_u8 (hwz (zs.getD i 0) (by simp [List.getD, hlt]))
      exact this

theorem walk (p : Option Addr) (n c : Nat) (f : Nat → Int) (hasErr : Bool) (E : Addr) (w : World) (h : BytesAt w p n f) (hf : ∀ i, i < n → 0 ≤ f i ∧ f i ≤ 255) (hp : p = none → n = 0 ∧ c = 0) (hnc : n ≤ c)
    (hE : w.cell? ⟨0, 0, none⟩ = some (.iface 61 (.pointer (some E)))) :
    Calls Ybad.prog 3 #[.slice p n c, .bool hasErr] w fun e w' => e = .returned (.bool true) ∧ Below w.heap.size w w' := by
  by_cases h1 : 1024 < n
  · exact exact_big p n c hasErr w h1
  · cases hasErr with
    | true => exact exact_err p n c f w h hp (by omega)
    | false =>
      by_cases h8 : n < 8
      · exact exact_short p n c f E w h hp hE h8
      · obtain ⟨b, o, rfl, hc⟩ := h (by omega)
        exact exact_ok b o n c f w hc hf (by omega) hnc (by omega)

set_option maxRecDepth 100000 in
theorem lifted (os : Os) (started : os.Started) (H : Type) (enc : TypeId × Value → H) :
    ReturnsInHanded {} Ybad.checked os 3 .any (fun w args => (Rows.lawS2212CExactSpec.pre enc Ybad.prog Ybad.f3 [] false w args ∧ laidMetH Ybad.prog laid1 w) ∧ sizedMet enc Ybad.prog Ybad.f3 (OpenSpec.ofChange Rows.lawS2212CExactSpec) false w args)
      (Rows.lawS2212CExactSpec.post enc Ybad.prog Ybad.f3 false true false false) := by
  refine returnsInHanded_of_change_and (C := Ybad.checked) (X := fun w _ => laidMetH Ybad.prog laid1 w) (fun _ _ _ hh h => h.of_heap hh) own started (by kernel_rfl) Ybad.func3
    (ChangeSpec.witness_shaped (enc := enc) (C := Ybad.checked) (os := os) (X := fun w _ => laidMetH Ybad.prog laid1 w) false (World.doorLaid Ybad.prog 400 os) #[.slice none 0 0, .bool false] 8 rfl (World.shaped_of_RefB (by kernel_rfl) (by kernel_rfl)) (by kernel_rfl) (by kernel_rfl) (by kernel_rfl) (door_met os _)) ?_
  intro W base args ds gs before hval0 hW _ _ hL _
  have hval : ∀ (j : Nat) t v, Ybad.f3.params[j]? = some t → args[j]? = some v → Value.okWide Ybad.prog W .any base t v := hval0
  have hW' := hW
  obtain ⟨p, q, hA0, hV0, rfl, hfz, hnd⟩ := hW
  have hA : DataW.TrodAll enc Ybad.prog W 0 (fun _ => true) true Ybad.f3.params.toList args.toList ds p := hA0
  have hV : DataW.TrodVars enc Ybad.prog W (fun _ => true) [vname] gs q := hV0
  rw [Ybad.params3] at hA hval
  obtain ⟨v0, vs0, d0, ds0, p0, q0, hargs, rfl, rfl, h0, r0⟩ := trodAll_cons hA
  obtain ⟨v1, vs1, d1, ds1, p1, q1, rfl, rfl, rfl, h1, r1⟩ := trodAll_cons r0
  obtain ⟨rfl, rfl, rfl⟩ := trodAll_nil r1
  obtain rfl : args = #[v0, v1] := by cases args; simp_all
  obtain ⟨a0, len0, cap0, rfl⟩ := okWide_slice Ybad.underlying22 (hval 0 22 v0 rfl rfl)
  obtain ⟨b1, rfl, rfl, rfl⟩ := open_bool Ybad.underlying4 (hval 1 4 v1 rfl rfl) h1
  obtain ⟨E, hv⟩ := of_laid hL
  have vr : ∀ {X : World}, X.var? Ybad.prog vname = some #[.iface 61 (.pointer (some E))] → ∀ sp : Nat → Bool,
      DataW.TrodVars enc Ybad.prog X sp [vname] [tok enc (.iface 61 (.pointer (some E)))] [.cell 0 0] :=
    fun x sp => vars_read1 enc gE gEType Ybad.underlying25 x trivial sp
  obtain ⟨rfl, rfl⟩ := hV.unique (vr hv _)
  have hE : W.cell? ⟨0, 0, none⟩ = some (.iface 61 (.pointer (some E))) := by simpa using World.var?_cell gE hv 0
  have hlt0 : 0 < W.heap.size := World.block_lt_of_cell? _ _ hE
  have lt0 : ∀ x ∈ p0, x.block < W.heap.size := by obtain ⟨m, hm⟩ := h0; exact DataW.trod_lt m _ _ _ hm
  clear hA0 hV0 hval0
  obtain ⟨f, hB, hf, hp, hnc⟩ := opened h0
  refine (walk a0 len0 cap0 f b1 E W hB hf hp hnc hE).mono fun e W' ⟨he, bel⟩ => ?_
  subst he
  have hvW : W'.var? Ybad.prog vname = some #[.iface 61 (.pointer (some E))] := by
    rw [← hv]
    exact var_below bel gE hlt0
  exact ⟨_, rfl, _, _, _, [], _, [.cell 0 0], hW', trodAll_mk1 (shut_bool Ybad.underlying4 _), (trodAll_cons_mk (Below.trod laidOut (by kernel_rfl) (of_decide_eq_true (by kernel_rfl)) h0 bel lt0) (trodAll_cons_mk (shut_bool Ybad.underlying4 _) trodAll_mk0)), vr hvW _, bel.frame _, fun h => by cases h⟩

theorem holds : Rows.LawS2212CExactSaid :=
  OpenClaim.holds_of_wide 3 Ybad.f3 rfl rfl rfl rfl rfl rfl rfl ⟨rfl, rfl, rfl, rfl, rfl⟩ rfl rfl rfl rfl rfl (by kernel_rfl) Ybad.func3 (by kernel_rfl)
    (of_decide_eq_true (by kernel_rfl)) (by unfold Func.isWrapper; first | (rw [if_pos (by decide +kernel)]; kernel_rfl) | (rw [if_neg (by decide +kernel)]; exact ⟨rfl, rfl⟩))
    (fun os started H enc _ => lifted os started H enc)
end Go.Proofs.YbulkasucDoor.lawS2212CExact
