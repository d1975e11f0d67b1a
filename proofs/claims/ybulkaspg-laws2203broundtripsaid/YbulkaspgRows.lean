/-
  No cell of these rows narrows 'for every input' (looked for: loops, veiled, ifaces, maps, wideKeys, modest, calm, conditions, laid).
  DERIVED. THE GIVEN ROWS OF THIS SEAT. 2 by the template 'for every input the law returns true; each argument reads behind the call as it read before'; 0 by the template 'total and deterministic' (their statements: YbulkaspgTotals.lean).
  GIVEN WITH THE SEED: the statements are not yours to turn. If you find one false, say at which input.
  Laid BY PROGRAM, IN A SANDBOX (cutbox-rows.mjs): the forced cells as the released guide's own fill.sh prints them over the translation 6150269a8b829bbe… (all of the seat's roots in one cut). By AI agents, Wed Nov 11 2026. No macro, syntax, notation, axiom, sorry.
-/
import Derived.Test.YbulkaspgChecked
import GoSem.Claim
import GoSem.ClaimJoined
import GoSem.ClaimMapViews
import Derived.JoinedTies
import Derived.KernelRfl
namespace Go.Proofs.Ybulkaspg
/- THE CELL 'sum', in the pinned program and in every row, IS THE sha256 OF THE DUMP (.gsa) THAT YbulkaspgProg.lean LOADS. Nothing in Lean hashes anything: it is a label: what it is worth is what the hold of that sum in a sandbox is worth. -/
noncomputable def Yba.pinned : Pinned := { name := "ybulkaspg", sum := "6150269a8b829bbe2116fe6ec794fa882e3356b32bae35cb30e24ad4da088a10", checked := Yba.checked }
namespace Rows
def none {H : Type} : Left H := { results := [], args := [] }

/-- 'wireform.LawS2203BRoundTrip': WHATEVER THE INPUT: true; the input reads as it did. -/
def lawS2203BRoundTripSpec : ChangeSpec := { name := "lawS2203BRoundTrip", fn := fun _ => fun
  | [d1, d2, d3, d4, d5, d6, d7] => { results := [.lit (.bool true)], args := [d1, d2, d3, d4, d5, d6, d7] }
  | _ => none }
def lawS2203BRoundTripRow : OpenClaim := { program := "ybulkaspg", sum := "6150269a8b829bbe2116fe6ec794fa882e3356b32bae35cb30e24ad4da088a10", func := "example.com/wireform/wireform.LawS2203BRoundTrip", spec := "lawS2203BRoundTrip", apart := false }
def LawS2203BRoundTripSaid : Prop := lawS2203BRoundTripRow.holds Yba.pinned (OpenSpec.ofChange lawS2203BRoundTripSpec)

/-- ITS FALSE NEIGHBOUR: 'it returns false'. Refute it at one input. -/
def lawS2203BRoundTripWrong : ChangeSpec := { name := "lawS2203BRoundTrip", fn := fun _ => fun
  | [d1, d2, d3, d4, d5, d6, d7] => { results := [.lit (.bool false)], args := [d1, d2, d3, d4, d5, d6, d7] }
  | _ => none }
def LawS2203BRoundTripWrongFalsely : Prop := lawS2203BRoundTripRow.holds Yba.pinned (OpenSpec.ofChange lawS2203BRoundTripWrong)

/-- 'wireform.LawS2203BLastWins': WHATEVER THE INPUT: true; the input reads as it did. -/
def lawS2203BLastWinsSpec : ChangeSpec := { name := "lawS2203BLastWins", fn := fun _ => fun
  | [d1, d2, d3] => { results := [.lit (.bool true)], args := [d1, d2, d3] }
  | _ => none }
def lawS2203BLastWinsRow : OpenClaim := { program := "ybulkaspg", sum := "6150269a8b829bbe2116fe6ec794fa882e3356b32bae35cb30e24ad4da088a10", func := "example.com/wireform/wireform.LawS2203BLastWins", spec := "lawS2203BLastWins", apart := false }
def LawS2203BLastWinsSaid : Prop := lawS2203BLastWinsRow.holds Yba.pinned (OpenSpec.ofChange lawS2203BLastWinsSpec)

/-- ITS FALSE NEIGHBOUR: 'it returns false'. Refute it at one input. -/
def lawS2203BLastWinsWrong : ChangeSpec := { name := "lawS2203BLastWins", fn := fun _ => fun
  | [d1, d2, d3] => { results := [.lit (.bool false)], args := [d1, d2, d3] }
  | _ => none }
def LawS2203BLastWinsWrongFalsely : Prop := lawS2203BLastWinsRow.holds Yba.pinned (OpenSpec.ofChange lawS2203BLastWinsWrong)

end Rows
end Go.Proofs.Ybulkaspg
