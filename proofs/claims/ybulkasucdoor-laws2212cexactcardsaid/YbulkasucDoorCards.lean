/-
  DERIVED. GIVEN WITH THE SEED: THE CARDS: each row of YbulkasucDoorRows.lean that lists a variable, with what it lists TIED to the program's text (the seventh form; the later family's looks); each row that meets fmt, with fmt's text TOLD by the authors' own Lean function (tested against real Go, not proved from fmt's source: count such statements apart). THE CARD IS WHAT COUNTS. Prove the row's statement (the work); the ties are given (YbulkasucDoorTie.lean); close each card by the builder's one call (the guide's Derived/Test/ToyasCard.lean, 'card_holds'). Laid BY PROGRAM, IN A SANDBOX (cutbox-door.mjs). By AI agents, Wed Nov 11 2026. No macro, syntax, notation, axiom, sorry.
-/
import Derived.Test.YbulkasucDoorRows
import GoSem.ClaimSeven
namespace Go.Proofs.YbulkasucDoor
namespace Rows

/-- THE TIED CARD OF 'reload.LawS2212CExact'. -/
def lawS2212CExactCard : Claim7 := { stood := { row := lawS2212CExactRow, standIns := [], harness := (true, "14a5a0b299a395f8e5876715e3fafafcf7abcc0277497e9ac515cc4a639f1f9e"), looks := true }, kinds := [], alts := [], laidByText := true, laidKinds := [.sentinel], laidTests := true, laidLooks := .later }
def LawS2212CExactCardSaid : Prop := Claim7.holds Ybad.pinned (.plain (OpenSpec.ofChange lawS2212CExactSpec)) lawS2212CExactCard

/-- THE TIED CARD OF 'reload.LawS2212CTwoHalves'. -/
def lawS2212CTwoHalvesCard : Claim7 := { stood := { row := lawS2212CTwoHalvesRow, standIns := [], harness := (true, "14a5a0b299a395f8e5876715e3fafafcf7abcc0277497e9ac515cc4a639f1f9e"), looks := true }, kinds := [], alts := [], laidByText := true, laidKinds := [.sentinel], laidTests := true, laidLooks := .later }
def LawS2212CTwoHalvesCardSaid : Prop := Claim7.holds Ybad.pinned (.plain (OpenSpec.ofChange lawS2212CTwoHalvesSpec)) lawS2212CTwoHalvesCard
end Rows
end Go.Proofs.YbulkasucDoor
