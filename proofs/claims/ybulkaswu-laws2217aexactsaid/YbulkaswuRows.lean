/-
  No cell of these rows narrows 'for every input' (looked for: loops, veiled, ifaces, maps, wideKeys, modest, calm, conditions, laid).
  DERIVED. THE GIVEN ROWS OF THIS SEAT. 1 by the template 'for every input the law returns true; each argument reads behind the call as it read before'; 0 by the template 'total and deterministic' (their statements: YbulkaswuTotals.lean).
  GIVEN WITH THE SEED: the statements are not yours to turn. If you find one false, say at which input.
  Laid BY PROGRAM, IN A SANDBOX (cutbox-rows.mjs): the forced cells as the released guide's own fill.sh prints them over the translation 4c6b5e326fb6b161… (all of the seat's roots in one cut). By AI agents, Wed Nov 11 2026. No macro, syntax, notation, axiom, sorry.
-/
import Derived.Test.YbulkaswuChecked
import GoSem.Claim
import GoSem.ClaimJoined
import GoSem.ClaimMapViews
import Derived.JoinedTies
import Derived.KernelRfl
namespace Go.Proofs.Ybulkaswu
/- THE CELL 'sum', in the pinned program and in every row, IS THE sha256 OF THE DUMP (.gsa) THAT YbulkaswuProg.lean LOADS. Nothing in Lean hashes anything: it is a label: what it is worth is what the hold of that sum in a sandbox is worth. -/
noncomputable def Yba.pinned : Pinned := { name := "ybulkaswu", sum := "4c6b5e326fb6b1615d6a5962c8d2e38f892ceb27661079f17c3d5b37af7390a2", checked := Yba.checked }
namespace Rows
def none {H : Type} : Left H := { results := [], args := [] }

/-- 'nearkey.LawS2217AExact': WHATEVER THE INPUT: true; the input reads as it did. -/
def lawS2217AExactSpec : ChangeSpec := { name := "lawS2217AExact", fn := fun _ => fun
  | [d1, d2] => { results := [.lit (.bool true)], args := [d1, d2] }
  | _ => none }
def lawS2217AExactRow : OpenClaim := { program := "ybulkaswu", sum := "4c6b5e326fb6b1615d6a5962c8d2e38f892ceb27661079f17c3d5b37af7390a2", func := "example.com/nearkey/nearkey.LawS2217AExact", spec := "lawS2217AExact", apart := false }
def LawS2217AExactSaid : Prop := lawS2217AExactRow.holds Yba.pinned (OpenSpec.ofChange lawS2217AExactSpec)

/-- ITS FALSE NEIGHBOUR: 'it returns false'. Refute it at one input. -/
def lawS2217AExactWrong : ChangeSpec := { name := "lawS2217AExact", fn := fun _ => fun
  | [d1, d2] => { results := [.lit (.bool false)], args := [d1, d2] }
  | _ => none }
def LawS2217AExactWrongFalsely : Prop := lawS2217AExactRow.holds Yba.pinned (OpenSpec.ofChange lawS2217AExactWrong)

end Rows
end Go.Proofs.Ybulkaswu
